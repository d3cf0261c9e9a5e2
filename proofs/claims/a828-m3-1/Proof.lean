import JvmDerived
import JvmDerived.Pilot.@@N@@Statement
import JvmDerived.Pilot.@@N@@Code
set_option linter.unusedVariables false
set_option linter.unusedSimpArgs false
namespace Jvm.Ow
open Sem ClassFile Op Lib Bundle Jvm.Stand Jvm.Free Jvm.LawKit Jvm.RoadKit
abbrev Po : Type := Option Value → Heap → List Addr → Prop
section Defs
variable (p : Program) (l : Launch) (e : Env) (R : Room) (s : State) (m : MethodId) (args : Array Value) (below : List Frame) (meth : Method) (c : Code) (Z : State) (EL : List (String × Nat)) (n0 : Nat) (own : String)
def SafeL (vm : Vm) (h : Heap) (S : List Addr) : Prop := ∀ x ∈ S, x < h.size ∧ Safe Z EL vm h x
def Don (Q : Po) (U : State) (o : Outcome) (U' : State) (rm : Room) : Prop :=
  ∃ v L S', o = .returned v ∧ (Q v U'.heap S' ∧ Fr n0 L ∧ Old Z n0 U'.heap ∧ SafeL Z EL U'.vm U'.heap S') ∧ CHr Z EL U.vm U.heap U'.vm U'.heap ∧ ReturnedEndW U o U' L rm.cells rm.slots
def Con (y : MethodName) (bytes : ByteArray) (maxL : Nat) (ret : Option FieldType) (ws : List Jvm.Cond) (rm : Room) (as' : Array Value) (S : List Addr) (h : Heap) (Q : Po) : Prop :=
  MetFree l y (head1 (Jvm.Cond.code y bytes maxL ret :: ws) rm) (fun a U => a = as' ∧ Z.Warmed39 U.vm ∧ U.heap = h ∧ CHv Z EL U.vm h ∧ SafeL Z EL U.vm h S) (fun _ _ _ _ _ => True) (fun _ U o U' => Don Z EL n0 Q U o U' rm)
def Sit (S : List Addr) (h : Heap) (k n : Nat) (T : State) : Prop :=
  ∃ locs vm0 k0 k' n', k' ≤ k ∧ n' ≤ n ∧ Stand p l e R (s.setVm vm0) m args below meth c T locs k' n' ∧ T.heap = h ∧ s.Since vm0 k0 ∧ k0 ≤ h.size ∧ Z.Warmed39 vm0 ∧ vm0.findClass own = some m.cls ∧ Fr n0 locs ∧ Old Z n0 h ∧ CHr Z EL s.vm s.heap vm0 h ∧ SafeL Z EL vm0 h S
def Fnl (Q : Po) (t : State) : Prop := ∃ s₂ o, Steps p.tables e below t s₂ ∧ s₂.status = .running ∧ Ended s₂ below o ∧ Don Z EL n0 Q s o s₂ R
def Go (Q : Po) (S : List Addr) (h : Heap) (k n : Nat) (pc : Nat) (Ls : Array Slot) (st : List Value) : Prop :=
  ∀ T, Sit p l e R s m args below meth c Z EL n0 own S h k n T → Fnl p e R s below Z EL n0 Q (T.setTop (mkF m pc Ls st))
def Bdy (a0 : Array Value) (bytes : ByteArray) (maxL : Nat) (ret : Option FieldType) (nm : String) : Prop :=
  p.tables.exec = Jvm.exec ∧ c.code = bytes ∧ c.maxLocals = maxL ∧ meth.sig.returnType = ret ∧ meth.name = nm ∧ meth.locks = false ∧ EW Z a0 EL ∧ (∀ w ∈ Bundle.stringAtoms, w.before a0 Z = true)
end Defs
section Rules
variable {p : Program} {l : Launch} {e : Env} {R : Room} {s : State} {m : MethodId} {args : Array Value} {below : List Frame} {meth : Method} {c : Code} {Z : State} {EL : List (String × Nat)} {n0 : Nat} {own : String} {a0 : Array Value} {bytes : ByteArray} {maxL : Nat} {ret : Option FieldType} {nm : String} {Q : Po} {S S' : List Addr} {h h' : Heap} {k n k' n' pc pc' : Nat} {Ls Ls' : Array Slot} {st st' rest : List Value}
theorem SafeL.nil {vm : Vm} : SafeL Z EL vm h [] := fun _ q => nomatch q
theorem SafeL.chr {vm vm1 : Vm} (A : CHr Z EL vm h vm1 h') (q : SafeL Z EL vm h S) : SafeL Z EL vm1 h' S := fun x hx => ⟨Nat.lt_of_lt_of_le (q x hx).1 A.2.1, A.safe (q x hx).1 (q x hx).2⟩
theorem SafeL.sub {vm : Vm} (q : SafeL Z EL vm h S) (hs : ∀ x ∈ S', x ∈ S) : SafeL Z EL vm h S' := fun x hx => q x (hs x hx)
theorem SafeL.app {vm : Vm} (q : SafeL Z EL vm h S) (q' : SafeL Z EL vm h S') : SafeL Z EL vm h (S ++ S') := fun x hx => (List.mem_append.mp hx).elim (q x) (q' x)
theorem SafeL.cons {vm : Vm} {a : Addr} (ha : a < h.size ∧ Safe Z EL vm h a) (q : SafeL Z EL vm h S) : SafeL Z EL vm h (a :: S) := fun x hx => (List.mem_cons.mp hx).elim (fun z => z ▸ ha) (q x)
theorem keepE (E : Ext h h') : Keep h h' [] := (Keep.refl h []).ext E
theorem nin0 {x : Nat} : x ∉ ([] : List Nat) := fun q => nomatch q
theorem ninS {x y : Nat} {L : List Nat} (q : x ≠ y) (r : x ∉ L) : x ∉ y :: L := by simp [q, r]
theorem allI0 {P : Int32 → Prop} : ∀ x ∈ ([] : List Int32), P x := fun _ q => nomatch q
theorem allI {P : Int32 → Prop} {y : Int32} {L : List Int32} (q : P y) (r : ∀ x ∈ L, P x) : ∀ x ∈ y :: L, P x := List.forall_mem_cons.mpr ⟨q, r⟩
theorem old_le (O : Old Z n0 h) : n0 ≤ h.size := O.1 ▸ O.2.1
theorem Go.mono (hk : k ≤ k') (hn : n ≤ n') (hs : ∀ x ∈ S', x ∈ S) (hr : Go p l e R s m args below meth c Z EL n0 own Q S' h k' n' pc Ls st) : Go p l e R s m args below meth c Z EL n0 own Q S h k n pc Ls st := by
  intro T ⟨locs, vm0, k0, k1, n1, q1, q2, X, eT, hS, hk0, hZ, hown, N, O, C, SL⟩
  exact hr T ⟨locs, vm0, k0, k1, n1, Nat.le_trans q1 hk, Nat.le_trans q2 hn, X, eT, hS, hk0, hZ, hown, N, O, C, SL.sub hs⟩
theorem Go.norm (hs : ∀ x ∈ S', x ∈ S) (hst : st = st') (hr : Go p l e R s m args below meth c Z EL n0 own Q S' h k n pc Ls st') : Go p l e R s m args below meth c Z EL n0 own Q S h k n pc Ls st := by
  subst hst
  exact Go.mono (Nat.le_refl _) (Nat.le_refl _) hs hr
theorem Go.nr (hr : Go p l e R s m args below meth c Z EL n0 own Q S' h k n pc Ls st') (hst : st = st' := by rfl) : Go p l e R s m args below meth c Z EL n0 own Q (S ++ S') h k n pc Ls st := Go.norm (fun _ q => List.mem_append_right _ q) hst hr
/-- in a walk the old heap is there -/
theorem Go.old (hr : Old Z n0 h → Go p l e R s m args below meth c Z EL n0 own Q S h k n pc Ls st) : Go p l e R s m args below meth c Z EL n0 own Q S h k n pc Ls st := by
  intro T A
  have A' := A
  obtain ⟨locs, vm0, k0, k1, n1, q1, q2, X, eT, hS, hk0, hZ, hown, N, O, C, SL⟩ := A'
  exact hr O T A
/-- a join: the rest from pc1 is walked once -/
theorem Go.join {α : Type} {pc1 : Nat} (F : α → Array Slot) (D : α → List Value) (hJ : ∀ b, Go p l e R s m args below meth c Z EL n0 own Q S h k n pc1 (F b) (D b)) (hr : (∀ b, Go p l e R s m args below meth c Z EL n0 own Q S h k n pc1 (F b) (D b)) → Go p l e R s m args below meth c Z EL n0 own Q S h k n pc Ls st) : Go p l e R s m args below meth c Z EL n0 own Q S h k n pc Ls st := hr hJ
/-- a join over the heap: the rest from pc1 is walked once, from any heap that keeps this one -/
theorem Go.joinH {α : Type} {pc1 k1 n1 : Nat} (F : α → Array Slot) (D : α → List Value) (hJ : ∀ h', Keep h h' [] → ∀ b, Go p l e R s m args below meth c Z EL n0 own Q S h' k1 n1 pc1 (F b) (D b)) (hr : (∀ h', Keep h h' [] → ∀ b, Go p l e R s m args below meth c Z EL n0 own Q S h' k1 n1 pc1 (F b) (D b)) → Go p l e R s m args below meth c Z EL n0 own Q S h k n pc Ls st) : Go p l e R s m args below meth c Z EL n0 own Q S h k n pc Ls st := hr hJ
theorem Con.enter {y : MethodName} {ws : List Jvm.Cond} {rm : Room} {as' : Array Value} (hpl : plainFor y = true) (hO : Old Z n0 h) (hEW : EW Z a0 EL) (hwS : ∀ w ∈ Bundle.stringAtoms, w.before a0 Z = true)
    (body : ∀ (p : Program) (e : Env) (s : State) (m : MethodId) (below : List Frame) (meth : Method) (c : Code), Bdy p meth c Z EL a0 bytes maxL ret y.name → Go p l e rm s m as' below meth c Z EL n0 y.cls Q S h 0 0 0 Ls [])
    (hef : ∀ m : MethodId, entryFrame m as' maxL = mkF m 0 Ls [] := by intro m; first | rfl | (simp [entryFrame, mkF, argsToLocals, Value.category]; done)) :
    Con l Z EL n0 y bytes maxL ret ws rm as' S h Q := by
  refine MetFree.of_bodySF hpl hisR ?_
  intro p e s m args below meth c s₁ Bd hml0 hP hK
  obtain ⟨rfl, hZ, rfl, hC, hS⟩ := hP
  have X0 : Stand p l e rm s m args below meth c s₁ [] 0 0 := Stand.of_body Bd
  have hown : s.vm.findClass y.cls = some m.cls := findClass_of_methodNamed Bd.named
  have hnm := (name_of_methodNamed Bd.named Bd.method).1
  have e0 : s₁.heap = s.heap := by rw [Bd.state]; rfl
  rw [hef m]
  exact body p e s m below meth c ⟨Bd.exec, Bd.bytes, hml0, Bd.returns, hnm, Bd.notSynchronized, hEW, hwS⟩ s₁ ⟨[], s.vm, s.heap.size, 0, 0, Nat.le_refl _, Nat.le_refl _, X0, e0, (State.WarmedH.refl s).since _, Nat.le_refl _, hZ, hown, Fr.nil _, hO, CHr.refl hC, hS⟩
theorem plain (hr : Go p l e R s m args below meth c Z EL n0 own Q S h k n pc' Ls' st')
    (stp : ∀ T, At T m c below → ∀ t, Steps p.tables e below (T.setTop (mkF m pc' Ls' st')) t → Steps p.tables e below (T.setTop (mkF m pc Ls st)) t) : Go p l e R s m args below meth c Z EL n0 own Q S h k n pc Ls st := by
  intro T A
  have A' := A
  obtain ⟨locs, vm0, k0, k1, n1, q1, q2, X, r⟩ := A'
  obtain ⟨s2, o, q, r2⟩ := hr T A
  exact ⟨s2, o, stp T X.here _ q, r2⟩
/-- a step that may warm the tables, the heap as it was -/
theorem warm (hr : Go p l e R s m args below meth c Z EL n0 own Q S h k n pc' Ls' st')
    (stp : ∀ T vm0 locs k1 n1, Stand p l e R (s.setVm vm0) m args below meth c T locs k1 n1 → T.heap = h → Z.Warmed39 (s.setVm vm0).vm → (s.setVm vm0).vm.findClass own = some m.cls → Old Z n0 h →
      ∃ T', Stand p l e R (s.setVm vm0) m args below meth c T' locs k1 n1 ∧ T'.heap = h ∧ ∀ t, Steps p.tables e below (T'.setTop (mkF m pc' Ls' st')) t → Steps p.tables e below (T.setTop (mkF m pc Ls st)) t) : Go p l e R s m args below meth c Z EL n0 own Q S h k n pc Ls st := by
  intro T ⟨locs, vm0, k0, k1, n1, q1, q2, X, eT, hS, hk0, hZ, hown, N, O, C, SL⟩
  obtain ⟨T', X', e', sp⟩ := stp T vm0 locs k1 n1 X eT hZ hown O
  obtain ⟨s2, o, q, r2⟩ := hr T' ⟨locs, vm0, k0, k1, n1, q1, q2, X', e', hS, hk0, hZ, hown, N, O, C, SL⟩
  exact ⟨s2, o, sp _ q, r2⟩
/-- a step that makes one cell -/
theorem made {dc dn : Nat} {nn : Nat} {P : Heap → Prop} (hk : k + 1 ≤ k') (hn : n + nn ≤ n')
    (stp : ∀ T vm0 locs k1 n1, k1 ≤ k → n1 ≤ n → Stand p l e R (s.setVm vm0) m args below meth c T locs k1 n1 → T.heap = h → Z.Warmed39 (s.setVm vm0).vm → (s.setVm vm0).vm.findClass own = some m.cls →
      ∃ T' h', Stand p l e R (s.setVm vm0) m args below meth c T' locs (k1 + 1) (n1 + nn) ∧ T'.heap = h' ∧ Ext h h' ∧ h.size < h'.size ∧ P h' ∧ ∀ t, Steps p.tables e below (T'.setTop (mkF m pc' Ls' st')) t → Steps p.tables e below (T.setTop (mkF m pc Ls st)) t)
    (hr : ∀ h', Ext h h' → P h' → n0 ≤ h.size → Go p l e R s m args below meth c Z EL n0 own Q (h.size :: S) h' k' n' pc' Ls' st') : Go p l e R s m args below meth c Z EL n0 own Q S h k n pc Ls st := by
  intro T ⟨locs, vm0, k0, k1, n1, q1, q2, X, eT, hS, hk0, hZ, hown, N, O, C, SL⟩
  obtain ⟨T', h', X', e', E, lt, hP, sp⟩ := stp T vm0 locs k1 n1 q1 q2 X eT hZ hown
  have A := CHr.ext (EL := EL) (vm := vm0) E C.1
  have sf : Safe Z EL vm0 h h.size := Safe.new (Nat.le_refl _)
  obtain ⟨s2, o, q, r2⟩ := hr h' E hP (old_le O) T' ⟨locs, vm0, k0, k1 + 1, n1 + nn, by omega, by omega, X', e', hS, Nat.le_trans hk0 E.1, hZ, hown, N, O.ext E, C.trans A, (SL.chr A).cons ⟨lt, sf.ext E C.1⟩⟩
  exact ⟨s2, o, sp _ q, r2⟩
/-- a step that writes one place of one cell -/
theorem wrote {a : Addr} {sl : Nat} {v : Value} (ha : n0 ≤ a) (hsafe : ∀ vm0, Z.Warmed39 vm0 → SafeL Z EL vm0 h S → Safe Z EL vm0 h a)
    (stp : ∀ T vm0 locs k1 n1, Stand p l e R (s.setVm vm0) m args below meth c T locs k1 n1 → T.heap = h → Z.Warmed39 (s.setVm vm0).vm → (s.setVm vm0).vm.findClass own = some m.cls →
      ∃ T' h', Stand p l e R (s.setVm vm0) m args below meth c T' (locs ++ [⟨a, sl⟩]) k1 n1 ∧ T'.heap = h' ∧ Wr h h' a sl v ∧ ∀ t, Steps p.tables e below (T'.setTop (mkF m pc' Ls' st')) t → Steps p.tables e below (T.setTop (mkF m pc Ls st)) t)
    (hr : ∀ h', Wr h h' a sl v → Go p l e R s m args below meth c Z EL n0 own Q S h' k n pc' Ls' st') : Go p l e R s m args below meth c Z EL n0 own Q S h k n pc Ls st := by
  intro T ⟨locs, vm0, k0, k1, n1, q1, q2, X, eT, hS, hk0, hZ, hown, N, O, C, SL⟩
  obtain ⟨T', h', X', e', W, sp⟩ := stp T vm0 locs k1 n1 X eT hZ hown
  have A := CHr.wr (EL := EL) (vm := vm0) W (hsafe vm0 hZ SL) C.1
  obtain ⟨s2, o, q, r2⟩ := hr h' W T' ⟨_, vm0, k0, k1, n1, q1, q2, X', e', hS, by rw [W.size]; exact hk0, hZ, hown, Fr.snoc X' N ha, O.wr W ha, C.trans A, SL.chr A⟩
  exact ⟨s2, o, sp _ q, r2⟩
/-- a callee by its contract -/
theorem Con.back {y : MethodName} {bytes' : ByteArray} {maxL' : Nat} {ret' : Option FieldType} {rm : Room} {as' : Array Value} {Q' : Po} {len W : Nat} {vm0 : Vm} (hM : Con l Z EL n0 y bytes' maxL' ret' [] rm as' S h Q')
    (hZ : Z.Warmed39 vm0) (wc : (Jvm.Cond.code y bytes' maxL' ret').before a0 Z = true) (wz : (Jvm.Cond.initialized y.cls).before a0 Z = true) (hf : rm.frames + 1 ≤ R.frames) (hl : W + (maxL' + 11) + rm.locals ≤ R.locals) (hEL : EW Z a0 EL) (H : CHv Z EL vm0 h) (hSL : SafeL Z EL vm0 h S) :
    BackS l R p e below (s.setVm vm0) args y len W (fun A a => a = as' ∧ A.U.heap = h ∧ A.cells + rm.cells ≤ R.cells ∧ A.slots + rm.slots ≤ R.slots)
      (fun A _ v B => ∃ L S', (Q' v B.U.heap S' ∧ Fr n0 L ∧ Old Z n0 B.U.heap ∧ SafeL Z EL B.U.vm B.U.heap S') ∧ B.locs = A.locs ++ L ∧ B.cells = A.cells + rm.cells ∧ B.slots = A.slots + rm.slots ∧ CHr Z EL vm0 h B.U.vm B.U.heap) := by
  have loc : ∀ {m : MethodId} {meth : Method} {c : Code} {A : Pt}, Stand p l e R (s.setVm vm0) m args below meth c A.U A.locs A.cells A.slots → Z.Warmed39 A.U.vm ∧ CHr Z EL vm0 h A.U.vm h := fun Y => ⟨wtrans (s := s.setVm vm0) hZ Y.warmed, CHv.at Y hZ hEL H⟩
  apply BackS.of_freeW (bytes := bytes') (maxL := maxL') (ret := ret') (E := fun _ U o U' L k n => ∃ v S', (o, k, n) = (.returned v, rm.cells, rm.slots) ∧ CHr Z EL U.vm U.heap U'.vm U'.heap ∧ Q' v U'.heap S' ∧ Fr n0 L ∧ Old Z n0 U'.heap ∧ SafeL Z EL U'.vm U'.heap S') hM hf hl
  · rintro m meth c A a Y ⟨-, -, g1, g2⟩
    have cd : (Jvm.Cond.code y bytes' maxL' ret').before a A.U = true := mv (loc Y).1 wc
    have ct : (Jvm.Cond.and (Jvm.Cond.code y bytes' maxL' ret') .tt).before a A.U = true := by rw [Cond.before_and, cd]; rfl
    exact ⟨ct, cd, mv (loc Y).1 wz, g1, g2⟩
  · rintro m meth c A a g mk Y ⟨g1, g2, -⟩
    exact ⟨g1, (loc Y).1, g2, (loc Y).2.1, hSL.chr (loc Y).2⟩
  · intros; trivial
  · rintro _ _ _ _ ⟨v, L, S', rfl, d, hC, hE⟩
    exact ⟨L, _, _, hE, v, S', rfl, hC, d⟩
  · rintro m meth c A a g mk v t L k n Y ⟨-, rfl, -⟩ - - ⟨v', S', o1, hC, d⟩
    cases o1
    exact ⟨L, S', d, rfl, rfl, rfl, (loc Y).2.trans hC⟩
abbrev NoH (y : MethodName) : Prop := y.cls ≠ "java/lang/invoke/MethodHandle" ∧ y.cls ≠ "java/lang/invoke/VarHandle"
/-- behind a call -/
theorem after {T : State} {vm0 : Vm} {k0 k1 n1 : Nat} {rm : Room} {Q' : Po} {v : Option Value} {P : Pt} {locs : List Loc} {t0 : State} (hS : s.Since vm0 k0) (hk0 : k0 ≤ h.size) (eT : T.heap = h) (q1 : k1 ≤ k) (q2 : n1 ≤ n) (hk : k + rm.cells ≤ k') (hn : n + rm.slots ≤ n')
    (hZ : Z.Warmed39 vm0) (hown : vm0.findClass own = some m.cls) (N : Fr n0 locs) (C : CHr Z EL s.vm s.heap vm0 h) (SL : SafeL Z EL vm0 h S)
    (X' : Stand p l e R ((s.setVm vm0).setVm P.U.vm) m args below meth c P.U P.locs P.cells P.slots) (h2 : (s.setVm vm0).Since P.U.vm P.U.heap.size) (hg : T.heap.size ≤ P.U.heap.size)
    (hpost : ∃ L S', (Q' v P.U.heap S' ∧ Fr n0 L ∧ Old Z n0 P.U.heap ∧ SafeL Z EL P.U.vm P.U.heap S') ∧ P.locs = locs ++ L ∧ P.cells = k1 + rm.cells ∧ P.slots = n1 + rm.slots ∧ CHr Z EL vm0 h P.U.vm P.U.heap)
    (hst : Steps p.tables e below t0 (P.U.setTop (mkF m pc' Ls (v.toList ++ rest))))
    (hr : ∀ v h' S', Q' v h' S' → h.size ≤ h'.size → Go p l e R s m args below meth c Z EL n0 own Q (S' ++ S) h' k' n' pc' Ls (v.toList ++ rest)) : Fnl p e R s below Z EL n0 Q t0 := by
  obtain ⟨L, S', ⟨hQ, N', O', SL'⟩, e1, e2, e3, C'⟩ := hpost
  obtain ⟨Y, hS2, hZ2, hown2⟩ := rebS hS (by rw [eT]; exact hk0) X' h2 hg hZ hown
  obtain ⟨s2, o, q, r2⟩ := hr v P.U.heap S' hQ C'.2.1 P.U ⟨P.locs, P.U.vm, P.U.heap.size, P.cells, P.slots, by omega, by omega, Y, rfl, hS2, Nat.le_refl _, hZ2, hown2, e1 ▸ N.app N', O', C.trans C', SL'.app (SL.chr C')⟩
  exact ⟨s2, o, hst.trans q, r2⟩
theorem iload (B : Bdy p meth c Z EL a0 bytes maxL ret nm) {j : Nat} {x : Int32} (hd : decode bytes pc = .ok (.iload j, 2)) (hr : Go p l e R s m args below meth c Z EL n0 own Q S h k n pc' Ls (.int x :: st)) (hp : pc' = pc + 2 := by rfl) (hl : Ls[j]? = some (.val (.int x)) := by rfl) : Go p l e R s m args below meth c Z EL n0 own Q S h k n pc Ls st := by
  subst hp
  exact plain hr fun T A t q => XS.iload A B.1 rfl (hb B.2.1 hd) hl q
theorem iloadN (B : Bdy p meth c Z EL a0 bytes maxL ret nm) {j : Fin 4} {x : Int32} (hd : decode bytes pc = .ok (.iload_n j, 1)) (hr : Go p l e R s m args below meth c Z EL n0 own Q S h k n pc' Ls (.int x :: st)) (hp : pc' = pc + 1 := by rfl) (hl : Ls[j.val]? = some (.val (.int x)) := by rfl) : Go p l e R s m args below meth c Z EL n0 own Q S h k n pc Ls st := by
  subst hp
  exact plain hr fun T A t q => XS.iloadN A B.1 rfl (hb B.2.1 hd) hl q
theorem aload (B : Bdy p meth c Z EL a0 bytes maxL ret nm) {j : Nat} {v : Value} (hd : decode bytes pc = .ok (.aload j, 2)) (hr : Go p l e R s m args below meth c Z EL n0 own Q S h k n pc' Ls (v :: st)) (hp : pc' = pc + 2 := by rfl) (hl : Ls[j]? = some (.val v) := by rfl) (hv : v.isRef = true := by rfl) : Go p l e R s m args below meth c Z EL n0 own Q S h k n pc Ls st := by
  subst hp
  exact plain hr fun T A t q => XS.aload A B.1 rfl (hb B.2.1 hd) hl hv q
theorem aloadN (B : Bdy p meth c Z EL a0 bytes maxL ret nm) {j : Fin 4} {v : Value} (hd : decode bytes pc = .ok (.aload_n j, 1)) (hr : Go p l e R s m args below meth c Z EL n0 own Q S h k n pc' Ls (v :: st)) (hp : pc' = pc + 1 := by rfl) (hl : Ls[j.val]? = some (.val v) := by rfl) (hv : v.isRef = true := by rfl) : Go p l e R s m args below meth c Z EL n0 own Q S h k n pc Ls st := by
  subst hp
  exact plain hr fun T A t q => XS.aloadN A B.1 rfl (hb B.2.1 hd) hl hv q
theorem istore (B : Bdy p meth c Z EL a0 bytes maxL ret nm) {j : Nat} {x : Int32} (hd : decode bytes pc = .ok (.istore j, 2)) (hr : Go p l e R s m args below meth c Z EL n0 own Q S h k n pc' Ls' st) (hp : pc' = pc + 2 := by rfl) (hl : storeLocals Ls j (.int x) = some Ls' := by rfl) : Go p l e R s m args below meth c Z EL n0 own Q S h k n pc Ls (.int x :: st) := by
  subst hp
  exact plain hr fun T A t q => XS.istore A B.1 rfl (hb B.2.1 hd) rfl hl q
theorem istoreN (B : Bdy p meth c Z EL a0 bytes maxL ret nm) {j : Fin 4} {x : Int32} (hd : decode bytes pc = .ok (.istore_n j, 1)) (hr : Go p l e R s m args below meth c Z EL n0 own Q S h k n pc' Ls' st) (hp : pc' = pc + 1 := by rfl) (hl : storeLocals Ls j.val (.int x) = some Ls' := by rfl) : Go p l e R s m args below meth c Z EL n0 own Q S h k n pc Ls (.int x :: st) := by
  subst hp
  exact plain hr fun T A t q => XS.istoreN A B.1 rfl (hb B.2.1 hd) rfl hl q
theorem astore (B : Bdy p meth c Z EL a0 bytes maxL ret nm) {j : Nat} {v : Value} (hd : decode bytes pc = .ok (.astore j, 2)) (hr : Go p l e R s m args below meth c Z EL n0 own Q S h k n pc' Ls' st) (hp : pc' = pc + 2 := by rfl) (hv : v.isRef = true := by rfl) (hl : storeLocals Ls j v = some Ls' := by rfl) : Go p l e R s m args below meth c Z EL n0 own Q S h k n pc Ls (v :: st) := by
  subst hp
  exact plain hr fun T A t q => XS.astore A B.1 rfl (hb B.2.1 hd) rfl hv hl q
theorem astoreN (B : Bdy p meth c Z EL a0 bytes maxL ret nm) {j : Fin 4} {v : Value} (hd : decode bytes pc = .ok (.astore_n j, 1)) (hr : Go p l e R s m args below meth c Z EL n0 own Q S h k n pc' Ls' st) (hp : pc' = pc + 1 := by rfl) (hv : v.isRef = true := by rfl) (hl : storeLocals Ls j.val v = some Ls' := by rfl) : Go p l e R s m args below meth c Z EL n0 own Q S h k n pc Ls (v :: st) := by
  subst hp
  exact plain hr fun T A t q => XS.astoreN A B.1 rfl (hb B.2.1 hd) rfl hv hl q
theorem iinc (B : Bdy p meth c Z EL a0 bytes maxL ret nm) {j : Nat} {cst : Int} {x y : Int32} (hd : decode bytes pc = .ok (.iinc j cst, 3)) (hr : Go p l e R s m args below meth c Z EL n0 own Q S h k n pc' Ls' st) (hp : pc' = pc + 3 := by rfl) (hl : Ls[j]? = some (.val (.int x)) := by rfl) (hy : y = x + Int32.ofInt cst := by first | rfl | decide) (hl' : storeLocals Ls j (.int y) = some Ls' := by rfl) : Go p l e R s m args below meth c Z EL n0 own Q S h k n pc Ls st := by
  subst hp
  exact plain hr fun T A t q => XS.iinc A B.1 rfl (hb B.2.1 hd) hl (hy ▸ hl') q
theorem iconst (B : Bdy p meth c Z EL a0 bytes maxL ret nm) {i : Int} {x : Int32} (hd : decode bytes pc = .ok (.iconst i, 1)) (hr : Go p l e R s m args below meth c Z EL n0 own Q S h k n pc' Ls (.int x :: st)) (hp : pc' = pc + 1 := by rfl) (hi : Int32.ofInt i = x := by first | rfl | decide) : Go p l e R s m args below meth c Z EL n0 own Q S h k n pc Ls st := by
  subst hp
  exact plain hr fun T A t q => XS.iconst A B.1 rfl (hb B.2.1 hd) (hi ▸ q)
theorem bipush (B : Bdy p meth c Z EL a0 bytes maxL ret nm) {i : Int} {x : Int32} (hd : decode bytes pc = .ok (.bipush i, 2)) (hr : Go p l e R s m args below meth c Z EL n0 own Q S h k n pc' Ls (.int x :: st)) (hp : pc' = pc + 2 := by rfl) (hi : (Int8.ofInt i).toInt32 = x := by first | rfl | decide) : Go p l e R s m args below meth c Z EL n0 own Q S h k n pc Ls st := by
  subst hp
  exact plain hr fun T A t q => XS.bipush A B.1 rfl (hb B.2.1 hd) (hi ▸ q)
theorem sipush (B : Bdy p meth c Z EL a0 bytes maxL ret nm) {i : Int} {x : Int32} (hd : decode bytes pc = .ok (.sipush i, 3)) (hr : Go p l e R s m args below meth c Z EL n0 own Q S h k n pc' Ls (.int x :: st)) (hp : pc' = pc + 3 := by rfl) (hi : (Int16.ofInt i).toInt32 = x := by first | rfl | decide) : Go p l e R s m args below meth c Z EL n0 own Q S h k n pc Ls st := by
  subst hp
  exact plain hr fun T A t q => XS.sipush A B.1 rfl (hb B.2.1 hd) (hi ▸ q)
theorem aconstNull (B : Bdy p meth c Z EL a0 bytes maxL ret nm)  (hd : decode bytes pc = .ok (.aconst_null, 1)) (hr : Go p l e R s m args below meth c Z EL n0 own Q S h k n pc' Ls (.null :: st)) (hp : pc' = pc + 1 := by rfl)  : Go p l e R s m args below meth c Z EL n0 own Q S h k n pc Ls st := by
  subst hp
  exact plain hr fun T A t q => XS.aconstNull A B.1 rfl (hb B.2.1 hd) q
theorem isub (B : Bdy p meth c Z EL a0 bytes maxL ret nm) {x y z : Int32} (hd : decode bytes pc = .ok (.isub, 1)) (hr : Go p l e R s m args below meth c Z EL n0 own Q S h k n pc' Ls (.int z :: st)) (hp : pc' = pc + 1 := by rfl) (hz : x - y = z := by first | rfl | decide) : Go p l e R s m args below meth c Z EL n0 own Q S h k n pc Ls (.int y :: .int x :: st) := by
  subst hp
  exact plain hr fun T A t q => XS.isub A B.1 rfl (hb B.2.1 hd) rfl (hz ▸ q)
theorem iand (B : Bdy p meth c Z EL a0 bytes maxL ret nm) {x y z : Int32} (hd : decode bytes pc = .ok (.iand, 1)) (hr : Go p l e R s m args below meth c Z EL n0 own Q S h k n pc' Ls (.int z :: st)) (hp : pc' = pc + 1 := by rfl) (hz : x &&& y = z := by first | rfl | decide) : Go p l e R s m args below meth c Z EL n0 own Q S h k n pc Ls (.int y :: .int x :: st) := by
  subst hp
  exact plain hr fun T A t q => XS.iand A B.1 rfl (hb B.2.1 hd) rfl (hz ▸ q)
theorem ior (B : Bdy p meth c Z EL a0 bytes maxL ret nm) {x y z : Int32} (hd : decode bytes pc = .ok (.ior, 1)) (hr : Go p l e R s m args below meth c Z EL n0 own Q S h k n pc' Ls (.int z :: st)) (hp : pc' = pc + 1 := by rfl) (hz : x ||| y = z := by first | rfl | decide) : Go p l e R s m args below meth c Z EL n0 own Q S h k n pc Ls (.int y :: .int x :: st) := by
  subst hp
  exact plain hr fun T A t q => XT.ior A B.1 rfl (hb B.2.1 hd) rfl (hz ▸ q)
theorem ishl (B : Bdy p meth c Z EL a0 bytes maxL ret nm) {x y z : Int32} (hd : decode bytes pc = .ok (.ishl, 1)) (hr : Go p l e R s m args below meth c Z EL n0 own Q S h k n pc' Ls (.int z :: st)) (hp : pc' = pc + 1 := by rfl) (hz : x <<< (y &&& 31) = z := by first | rfl | decide) : Go p l e R s m args below meth c Z EL n0 own Q S h k n pc Ls (.int y :: .int x :: st) := by
  subst hp
  exact plain hr fun T A t q => XT.ishl A B.1 rfl (hb B.2.1 hd) rfl (hz ▸ q)
theorem ishr (B : Bdy p meth c Z EL a0 bytes maxL ret nm) {x y z : Int32} (hd : decode bytes pc = .ok (.ishr, 1)) (hr : Go p l e R s m args below meth c Z EL n0 own Q S h k n pc' Ls (.int z :: st)) (hp : pc' = pc + 1 := by rfl) (hz : x >>> (y &&& 31) = z := by first | rfl | decide) : Go p l e R s m args below meth c Z EL n0 own Q S h k n pc Ls (.int y :: .int x :: st) := by
  subst hp
  exact plain hr fun T A t q => XT.ishr A B.1 rfl (hb B.2.1 hd) rfl (hz ▸ q)
theorem iushr (B : Bdy p meth c Z EL a0 bytes maxL ret nm) {x y z : Int32} (hd : decode bytes pc = .ok (.iushr, 1)) (hr : Go p l e R s m args below meth c Z EL n0 own Q S h k n pc' Ls (.int z :: st)) (hp : pc' = pc + 1 := by rfl) (hz : Jvm.Free.XT.ushr x y = z := by first | rfl | decide) : Go p l e R s m args below meth c Z EL n0 own Q S h k n pc Ls (.int y :: .int x :: st) := by
  subst hp
  exact plain hr fun T A t q => XT.iushr A B.1 rfl (hb B.2.1 hd) rfl (hz ▸ q)
theorem irem (B : Bdy p meth c Z EL a0 bytes maxL ret nm) {x y z : Int32} (hd : decode bytes pc = .ok (.irem, 1)) (hr : Go p l e R s m args below meth c Z EL n0 own Q S h k n pc' Ls (.int z :: st)) (hp : pc' = pc + 1 := by rfl) (hy : y ≠ 0 := by first | rfl | decide) (hz : x % y = z := by first | rfl | decide) : Go p l e R s m args below meth c Z EL n0 own Q S h k n pc Ls (.int y :: .int x :: st) := by
  subst hp
  exact plain hr fun T A t q => XS.irem A B.1 rfl (hb B.2.1 hd) rfl hy (by rw [irem_eq_mod x y, hz]; exact q)
theorem i2b (B : Bdy p meth c Z EL a0 bytes maxL ret nm) {x z : Int32} (hd : decode bytes pc = .ok (.i2b, 1)) (hr : Go p l e R s m args below meth c Z EL n0 own Q S h k n pc' Ls (.int z :: st)) (hp : pc' = pc + 1 := by rfl) (hz : x.toInt8.toInt32 = z := by first | rfl | decide) : Go p l e R s m args below meth c Z EL n0 own Q S h k n pc Ls (.int x :: st) := by
  subst hp
  exact plain hr fun T A t q => XT.i2b A B.1 rfl (hb B.2.1 hd) rfl (hz ▸ q)
theorem i2c (B : Bdy p meth c Z EL a0 bytes maxL ret nm) {x z : Int32} (hd : decode bytes pc = .ok (.i2c, 1)) (hr : Go p l e R s m args below meth c Z EL n0 own Q S h k n pc' Ls (.int z :: st)) (hp : pc' = pc + 1 := by rfl) (hz : x.toUInt32.toUInt16.toUInt32.toInt32 = z := by first | rfl | decide) : Go p l e R s m args below meth c Z EL n0 own Q S h k n pc Ls (.int x :: st) := by
  subst hp
  exact plain hr fun T A t q => XT.i2c A B.1 rfl (hb B.2.1 hd) rfl (hz ▸ q)
theorem dup (B : Bdy p meth c Z EL a0 bytes maxL ret nm) {v : Value} (hd : decode bytes pc = .ok (.dup, 1)) (hr : Go p l e R s m args below meth c Z EL n0 own Q S h k n pc' Ls (v :: v :: st)) (hp : pc' = pc + 1 := by rfl) (hc : v.category = 1 := by rfl) : Go p l e R s m args below meth c Z EL n0 own Q S h k n pc Ls (v :: st) := by
  subst hp
  exact plain hr fun T A t q => XS.dup A B.1 rfl (hb B.2.1 hd) rfl hc q
theorem pop (B : Bdy p meth c Z EL a0 bytes maxL ret nm) {v : Value} (hd : decode bytes pc = .ok (.pop, 1)) (hr : Go p l e R s m args below meth c Z EL n0 own Q S h k n pc' Ls st) (hp : pc' = pc + 1 := by rfl) (hc : v.category = 1 := by rfl) : Go p l e R s m args below meth c Z EL n0 own Q S h k n pc Ls (v :: st) := by
  subst hp
  exact plain hr fun T A t q => XT.pop A B.1 rfl (hb B.2.1 hd) rfl hc q
theorem goto (B : Bdy p meth c Z EL a0 bytes maxL ret nm) {o : Int} (hd : decode bytes pc = .ok (.goto o, 3)) (hr : Go p l e R s m args below meth c Z EL n0 own Q S h k n pc' Ls st) (ho : 0 ≤ (pc : Int) + o := by decide) (hp : ((pc : Int) + o).toNat = pc' := by decide) : Go p l e R s m args below meth c Z EL n0 own Q S h k n pc Ls st := plain hr fun T A t q => XS.goto A B.1 rfl (pc0 := pc) rfl (hb B.2.1 hd) ho hp q
theorem ifT (B : Bdy p meth c Z EL a0 bytes maxL ret nm) {cd : ClassFile.Cond} {x : Int32} {o : Int} (hd : decode bytes pc = .ok (.ifCond cd o, 3)) (hc : if_icmp.holds cd x 0 = true) (hr : Go p l e R s m args below meth c Z EL n0 own Q S h k n pc' Ls st) (ho : 0 ≤ (pc : Int) + o := by decide) (hp : ((pc : Int) + o).toNat = pc' := by decide) : Go p l e R s m args below meth c Z EL n0 own Q S h k n pc Ls (.int x :: st) := plain hr fun T A t q => XS.ifYes A B.1 rfl (pc0 := pc) rfl (hb B.2.1 hd) rfl ((if0 cd x).trans hc) ho hp q
theorem ifF (B : Bdy p meth c Z EL a0 bytes maxL ret nm) {cd : ClassFile.Cond} {x : Int32} {o : Int} (hd : decode bytes pc = .ok (.ifCond cd o, 3)) (hc : if_icmp.holds cd x 0 = false) (hr : Go p l e R s m args below meth c Z EL n0 own Q S h k n pc' Ls st) (hp : pc' = pc + 3 := by rfl) : Go p l e R s m args below meth c Z EL n0 own Q S h k n pc Ls (.int x :: st) := by
  subst hp
  exact plain hr fun T A t q => XS.ifNo A B.1 rfl (hb B.2.1 hd) rfl ((if0 cd x).trans hc) q
theorem icmpT (B : Bdy p meth c Z EL a0 bytes maxL ret nm) {cd : ClassFile.Cond} {x y : Int32} {o : Int} (hd : decode bytes pc = .ok (.if_icmp cd o, 3)) (hc : if_icmp.holds cd x y = true) (hr : Go p l e R s m args below meth c Z EL n0 own Q S h k n pc' Ls st) (ho : 0 ≤ (pc : Int) + o := by decide) (hp : ((pc : Int) + o).toNat = pc' := by decide) : Go p l e R s m args below meth c Z EL n0 own Q S h k n pc Ls (.int y :: .int x :: st) := plain hr fun T A t q => XS.icmpYes A B.1 rfl (pc0 := pc) rfl (hb B.2.1 hd) rfl hc ho hp q
theorem icmpF (B : Bdy p meth c Z EL a0 bytes maxL ret nm) {cd : ClassFile.Cond} {x y : Int32} {o : Int} (hd : decode bytes pc = .ok (.if_icmp cd o, 3)) (hc : if_icmp.holds cd x y = false) (hr : Go p l e R s m args below meth c Z EL n0 own Q S h k n pc' Ls st) (hp : pc' = pc + 3 := by rfl) : Go p l e R s m args below meth c Z EL n0 own Q S h k n pc Ls (.int y :: .int x :: st) := by
  subst hp
  exact plain hr fun T A t q => XS.icmpNo A B.1 rfl (hb B.2.1 hd) rfl hc q
theorem callStatic (B : Bdy p meth c Z EL a0 bytes maxL ret nm) {index : Nat} {y : MethodName} {bytes' : ByteArray} {maxL' : Nat} {ret' : Option FieldType} {rm : Room} {S1 : List Addr} {Q' : Po} {argsL : List Value} {ps : List FieldType} {rt : Option FieldType} {W : Nat} (hd : decode bytes pc = .ok (.invokestatic index, 3)) (w1 : (Jvm.Cond.methodLink own index y).before a0 Z = true) (w2 : (Jvm.Cond.static y).before a0 Z = true) (w3 : (Jvm.Cond.initialized y.cls).before a0 Z = true) (w4 : (Jvm.Cond.code y bytes' maxL' ret').before a0 Z = true) 
    (hM : Con l Z EL n0 y bytes' maxL' ret' [] rm argsL.toArray S1 h Q') (hpd : parseMethodDescriptor y.desc = some ⟨ps, rt⟩)
    (hr : ∀ v h' S', Q' v h' S' → h.size ≤ h'.size → Go p l e R s m args below meth c Z EL n0 own Q (S' ++ S) h' k' n' pc' Ls (v.toList ++ rest)) (hp : pc' = pc + 3 := by rfl) (hln : argsL.length = ps.length := by rfl) (hW : (rest.map fun v => v.category).sum ≤ W := by exact Nat.le_of_eq rfl) (hf : rm.frames + 1 ≤ R.frames := by decide) (hl : W + (maxL' + 11) + rm.locals ≤ R.locals := by decide) (hk : k + rm.cells ≤ k' := by decide) (hn : n + rm.slots ≤ n' := by decide) (hkR : k' ≤ R.cells := by decide) (hnR : n' ≤ R.slots := by decide) (hsub : ∀ x ∈ S1, x ∈ S := by simp) (hsz : Ls.size = maxL := by rfl) (hst : st = argsL.reverse ++ rest := by rfl) (hy : NoH y := by decide) : Go p l e R s m args below meth c Z EL n0 own Q S h k n pc Ls st := by
  subst hp hst
  intro T ⟨locs, vm0, k0, k1, n1, q1, q2, X, eT, hS, hk0, hZ, hown, N, O, C, SL⟩
  obtain ⟨v, vm1, P, hW1, X', h2, hg, hpost, hst⟩ := callSS X B.1 (y := y) hown (mvT (s := s.setVm vm0) hZ w1) (mvT (s := s.setVm vm0) hZ w2) (mvT (s := s.setVm vm0) hZ w3) (mvT (s := s.setVm vm0) hZ w4) hy (Con.back (W := W) hM hZ w4 w3 hf hl B.2.2.2.2.2.2.1 C.1 (SL.sub hsub)) (g := mkF m pc Ls (argsL.reverse ++ rest)) rfl (by rw [B.2.2.1]; exact hsz) (argsL := argsL) (rest := rest) (lenOf hpd hln) rfl (by show 2 * 0 + _ ≤ _; omega) (hb B.2.1 hd) (fun _ _ => ⟨rfl, eT, by show k1 + _ ≤ _; omega, by show n1 + _ ≤ _; omega⟩)
  exact after hS hk0 eT q1 q2 hk hn hZ hown N C SL X' h2 hg hpost hst hr
theorem callInit (B : Bdy p meth c Z EL a0 bytes maxL ret nm) {index : Nat} {y : MethodName} {bytes' : ByteArray} {maxL' : Nat} {rm : Room} {S1 : List Addr} {Q' : Po} {argsL : List Value} {ps : List FieldType} {rt : Option FieldType} {W : Nat} {a : Addr} (hd : decode bytes pc = .ok (.invokespecial index, 3)) (w1 : (Jvm.Cond.methodLink own index y).before a0 Z = true) (w2 : (Jvm.Cond.instanceMethod y).before a0 Z = true) (w3 : (Jvm.Cond.initialized y.cls).before a0 Z = true) (w4 : (Jvm.Cond.code y bytes' maxL' none).before a0 Z = true) 
    (hM : Con l Z EL n0 y bytes' maxL' none [] rm (.ref a :: argsL).toArray S1 h Q') (hpd : parseMethodDescriptor y.desc = some ⟨ps, rt⟩)
    (hr : ∀ v h' S', Q' v h' S' → h.size ≤ h'.size → Go p l e R s m args below meth c Z EL n0 own Q (S' ++ S) h' k' n' pc' Ls (v.toList ++ rest)) (hp : pc' = pc + 3 := by rfl) (hln : argsL.length = ps.length := by rfl) (hW : (rest.map fun v => v.category).sum ≤ W := by exact Nat.le_of_eq rfl) (hf : rm.frames + 1 ≤ R.frames := by decide) (hl : W + (maxL' + 11) + rm.locals ≤ R.locals := by decide) (hk : k + rm.cells ≤ k' := by decide) (hn : n + rm.slots ≤ n' := by decide) (hkR : k' ≤ R.cells := by decide) (hnR : n' ≤ R.slots := by decide) (hsub : ∀ x ∈ S1, x ∈ S := by simp) (hsz : Ls.size = maxL := by rfl) (hst : st = argsL.reverse ++ .ref a :: rest := by rfl) (hy : NoH y := by decide) (hy1 : y.name = "<init>" := by rfl) : Go p l e R s m args below meth c Z EL n0 own Q S h k n pc Ls st := by
  subst hp hst
  intro T ⟨locs, vm0, k0, k1, n1, q1, q2, X, eT, hS, hk0, hZ, hown, N, O, C, SL⟩
  obtain ⟨v, vm1, P, hW1, X', h2, hg, hpost, hst⟩ := X.specialBackS B.1 (y := y) hy1 hown (mvT (s := s.setVm vm0) hZ w1) (mvT (s := s.setVm vm0) hZ w2) (mvT (s := s.setVm vm0) hZ w4) hy (Con.back (W := W) hM hZ w4 w3 hf hl B.2.2.2.2.2.2.1 C.1 (SL.sub hsub)) (g := mkF m pc Ls (argsL.reverse ++ .ref a :: rest)) rfl (by rw [B.2.2.1]; exact hsz) (Steps.refl _) (a := a) (argsL := argsL) (rest := rest) (lenOf hpd hln) rfl (by show 2 * 0 + _ ≤ _; omega) (hb B.2.1 hd) (fun _ _ => ⟨rfl, eT, by show k1 + _ ≤ _; omega, by show n1 + _ ≤ _; omega⟩)
  exact after hS hk0 eT q1 q2 hk hn hZ hown N C SL X' h2 hg hpost hst hr
theorem callVirtual (B : Bdy p meth c Z EL a0 bytes maxL ret nm) {index : Nat} {y : MethodName} {bytes' : ByteArray} {maxL' : Nat} {ret' : Option FieldType} {rm : Room} {S1 : List Addr} {Q' : Po} {argsL : List Value} {ps : List FieldType} {rt : Option FieldType} {W : Nat} {a : Addr} {K K' : String} {z : MethodName} (hd : decode bytes pc = .ok (.invokevirtual index, 3)) (w1 : (Jvm.Cond.methodLink own index y).before a0 Z = true) (w2 : (Jvm.Cond.declares y).before a0 Z = true) (w0 : (Jvm.Cond.selects K' y y).before a0 Z = true) (w5 : (Jvm.Cond.selects K y z).before a0 Z = true) (w6 : (Jvm.Cond.instanceMethod z).before a0 Z = true) (w3 : (Jvm.Cond.initialized z.cls).before a0 Z = true) (w4 : (Jvm.Cond.code z bytes' maxL' ret').before a0 Z = true) (E : Exa Z h a K)
    (hM : Con l Z EL n0 z bytes' maxL' ret' [] rm (.ref a :: argsL).toArray S1 h Q') (hpd : parseMethodDescriptor y.desc = some ⟨ps, rt⟩)
    (hr : ∀ v h' S', Q' v h' S' → h.size ≤ h'.size → Go p l e R s m args below meth c Z EL n0 own Q (S' ++ S) h' k' n' pc' Ls (v.toList ++ rest)) (hp : pc' = pc + 3 := by rfl) (hln : argsL.length = ps.length := by rfl) (hW : (rest.map fun v => v.category).sum ≤ W := by exact Nat.le_of_eq rfl) (hf : rm.frames + 1 ≤ R.frames := by decide) (hl : W + (maxL' + 11) + rm.locals ≤ R.locals := by decide) (hk : k + rm.cells ≤ k' := by decide) (hn : n + rm.slots ≤ n' := by decide) (hkR : k' ≤ R.cells := by decide) (hnR : n' ≤ R.slots := by decide) (hsub : ∀ x ∈ S1, x ∈ S := by simp) (hsz : Ls.size = maxL := by rfl) (hst : st = argsL.reverse ++ .ref a :: rest := by rfl) (hy : NoH y := by decide) : Go p l e R s m args below meth c Z EL n0 own Q S h k n pc Ls st := by
  subst hp hst
  intro T ⟨locs, vm0, k0, k1, n1, q1, q2, X, eT, hS, hk0, hZ, hown, N, O, C, SL⟩
  obtain ⟨cq, kq, qa, qb, qc⟩ := isOf (s := s.setVm vm0) hZ eT E
  obtain ⟨v, vm1, P, hW1, X', h2, hg, hpost, hst⟩ := X.virtualBackS B.1 (y := y) (z := z) hown (mvT (s := s.setVm vm0) hZ w1) (mvT (s := s.setVm vm0) hZ w2) (notFace_of_selects (args := #[]) (mvT (s := s.setVm vm0) hZ w0)) (mvT (s := s.setVm vm0) hZ w5) (mvT (s := s.setVm vm0) hZ w6) hy (Con.back (W := W) hM hZ w4 w3 hf hl B.2.2.2.2.2.2.1 C.1 (SL.sub hsub)) qa qc (g := mkF m pc Ls (argsL.reverse ++ .ref a :: rest)) rfl (by rw [B.2.2.1]; exact hsz) (Steps.refl _) (argsL := argsL) (rest := rest) (lenOf hpd hln) rfl (by show 2 * 0 + _ ≤ _; omega) (hb B.2.1 hd) (fun _ _ => ⟨rfl, eT, by show k1 + _ ≤ _; omega, by show n1 + _ ≤ _; omega⟩)
  exact after hS hk0 eT q1 q2 hk hn hZ hown N C SL X' h2 hg hpost hst hr
theorem newObj (B : Bdy p meth c Z EL a0 bytes maxL ret nm) {index nn : Nat} {K : String} (hd : decode bytes pc = .ok (.new index, 3)) (w : (Jvm.Cond.classLink own index K).before a0 Z = true) (wi : (Jvm.Cond.instantiable K nn).before a0 Z = true) (wz : (Jvm.Cond.initialized K).before a0 Z = true) 
    (hr : ∀ (h' : Heap) (a : Nat), a = h.size → n0 ≤ a → Keep h h' [] → Exa Z h' a K → (∀ {O f d : String} {ty : FieldType}, Laid Z a0 K O f d → parseFieldDescriptor d = some ty → Fld Z h' a O f d (defaultValue ty)) → Go p l e R s m args below meth c Z EL n0 own Q (a :: S) h' k' n' pc' Ls (.ref a :: st)) (hp : pc' = pc + 3 := by rfl) (hk : k + 1 ≤ k' := by decide) (hn : n + nn ≤ n' := by decide) (hkR : k' ≤ R.cells := by decide) (hnR : n' ≤ R.slots := by decide) : Go p l e R s m args below meth c Z EL n0 own Q S h k n pc Ls st := by
  subst hp
  refine made (dc := 0) (dn := 0) (nn := nn) (P := fun h' => Exa Z h' h.size K ∧ ∀ (O f d : String) (ty : FieldType), Laid Z a0 K O f d → parseFieldDescriptor d = some ty → Fld Z h' h.size O f d (defaultValue ty)) hk hn ?_ (fun h' E P q => hr h' h.size rfl q (keepE E) P.1 (fun {O f d ty} a b => P.2 O f d ty a b))
  intro T vm0 locs k1 n1 q1 q2 X eT hZ hown
  obtain ⟨T', h', X', e', E, A, D, -, st⟩ := newO X B.1 hZ hown w wi wz eT (g := mkF m pc Ls st) rfl (hb B.2.1 hd) (by omega) (by omega)
  exact ⟨T', h', X', e', E, A.lt, ⟨A, fun O f d ty a b => D a b⟩, st⟩
theorem newArr (B : Bdy p meth c Z EL a0 bytes maxL ret nm) {aty : ArrayType} {z : Int32} {cap : Nat} (hd : decode bytes pc = .ok (.newarray aty, 2)) (w : (Jvm.Cond.arrayClass (newarray.typeOf aty)).before a0 Z = true) (hz : ¬ z < 0) (hcap : z.toNatClampNeg ≤ cap) 
    (hr : ∀ (h' : Heap) (a : Nat) (cA : ClassId), a = h.size → n0 ≤ a → Keep h h' [] → Arv Z h' a cA (newarray.typeOf aty) z [] (defaultValue (newarray.typeOf aty)) → Go p l e R s m args below meth c Z EL n0 own Q (a :: S) h' k' n' pc' Ls (.ref a :: rest)) (hp : pc' = pc + 2 := by rfl) (hk : k + 1 ≤ k' := by decide) (hn : n + cap ≤ n' := by decide) (hkR : k' ≤ R.cells := by decide) (hnR : n' ≤ R.slots := by decide) (hcb : cap * 8 ≤ 536870912 := by decide) : Go p l e R s m args below meth c Z EL n0 own Q S h k n pc Ls (.int z :: rest) := by
  subst hp
  refine made (dc := 0) (dn := 0) (nn := cap) (P := fun h' => ∃ cA, Arr Z h' h.size (newA cA (newarray.typeOf aty) z) (newarray.typeOf aty)) hk hn ?_ (fun h' E P q => P.elim fun cA A => hr h' h.size cA rfl q (keepE E) (Arv.new A hz))
  intro T vm0 locs k1 n1 q1 q2 X eT hZ hown
  obtain ⟨T', h', cA, X', e', E, A, st⟩ := newP X B.1 hZ w eT (g := mkF m pc Ls (.int z :: rest)) rfl (hb B.2.1 hd) (n := z) rfl hz hcap hcb (by omega) (by omega)
  exact ⟨T', h', X', e', E, A.lt, ⟨cA, A⟩, st⟩
theorem getfield (B : Bdy p meth c Z EL a0 bytes maxL ret nm) {index : Nat} {R0 O f d : String} {a : Addr} {v : Value} (hd : decode bytes pc = .ok (.getfield index, 3)) (w : (Jvm.Cond.fieldLink own index R0 f d).before a0 Z = true) (via : Via Z R0 O f d) (F : Fld Z h a O f d v) (hr : Go p l e R s m args below meth c Z EL n0 own Q S h k n pc' Ls (v :: rest)) (hp : pc' = pc + 3 := by rfl) : Go p l e R s m args below meth c Z EL n0 own Q S h k n pc Ls (.ref a :: rest) := by
  subst hp
  exact warm hr fun T vm0 locs k1 n1 X eT hZ hown _ => getF X B.1 hZ hown (host := "") (Or.inl w) via eT F (g := mkF m pc Ls (.ref a :: rest)) rfl rfl (hb B.2.1 hd)
theorem getstatic (B : Bdy p meth c Z EL a0 bytes maxL ret nm) {index : Nat} {R0 O f d : String} {v : Value} (hd : decode bytes pc = .ok (.getstatic index, 3)) (w : (Jvm.Cond.fieldLink own index R0 f d).before a0 Z = true) (via : Via Z R0 O f d) (F : Sta Z Z.heap O f d v) (hr : Go p l e R s m args below meth c Z EL n0 own Q S h k n pc' Ls (v :: st)) (hp : pc' = pc + 3 := by rfl) : Go p l e R s m args below meth c Z EL n0 own Q S h k n pc Ls st := by
  subst hp
  exact warm hr fun T vm0 locs k1 n1 X eT hZ hown O => getS X B.1 hZ hown (host := "") w via eT (F.ext O.2) (g := mkF m pc Ls st) rfl (hb B.2.1 hd)
theorem putfield (B : Bdy p meth c Z EL a0 bytes maxL ret nm) {index kk : Nat} {R0 O f d K : String} {ty : FieldType} {a : Addr} {v old : Value} (hd : decode bytes pc = .ok (.putfield index, 3)) (w : (Jvm.Cond.fieldLink own index R0 f d).before a0 Z = true) (via : Via Z R0 O f d) (F : Fld Z h a O f d old) (E : Exa Z h a K) (L : (Jvm.Cond.lays K O f d).before a0 Z = true ∨ ((Jvm.Cond.laysFinal K O f d).before a0 Z = true ∧ own = O ∧ nm = "<init>")) (wi : (Jvm.Cond.instantiable K kk).before a0 Z = true)
    (hsafe : a ∈ S ∨ (K ≠ "java/lang/String" ∧ K ≠ "[B")) (hr : ∀ h', Wr h h' a (RoadKit.slotOf Z O f d) v → Go p l e R s m args below meth c Z EL n0 own Q S h' k n pc' Ls rest) (hp : pc' = pc + 3 := by rfl) (hty : parseFieldDescriptor d = some ty := by decide) (hnn : narrow ty v = v := by rfl) (hfit : fits ty v = true := by first | rfl | decide) (ha : n0 ≤ a := by omega) : Go p l e R s m args below meth c Z EL n0 own Q S h k n pc Ls (v :: .ref a :: rest) := by
  subst hp
  exact wrote ha (fun vm0 hZ SL => hsafe.elim (fun q => (SL a q).2) (fun q => Safe.exa hZ.alike E q.1 q.2)) (fun T vm0 locs k1 n1 X eT hZ hown => putF X B.1 hZ hown (host := "") (Or.inl w) via eT F E (L.imp id fun ⟨u, v, w⟩ => ⟨u, v, B.2.2.2.2.1.trans w⟩) wi hty hnn hfit (g := mkF m pc Ls (v :: .ref a :: rest)) rfl rfl (hb B.2.1 hd)) hr
theorem castore (B : Bdy p meth c Z EL a0 bytes maxL ret nm) {a : Addr} {kc : ClassId} {z j x : Int32} {vs : List Value} {dv : Value} {i : Nat} (hd : decode bytes pc = .ok (.castore, 1)) (A : Arv Z h a kc .char z vs dv) (hj : ¬ j < 0 ∧ j < z) 
    (hr : ∀ h', Keep h h' [a] → Arv Z h' a kc .char z (vs.set i (.int (nar .char x))) dv → Go p l e R s m args below meth c Z EL n0 own Q S h' k n pc' Ls rest) (hp : pc' = pc + 1 := by rfl) (ha : n0 ≤ a := by omega) (hlt : i < vs.length := by simp) (hi : j.toNatClampNeg = i := by decide) : Go p l e R s m args below meth c Z EL n0 own Q S h k n pc Ls (.int x :: .int j :: .ref a :: rest) := by
  subst hp
  obtain ⟨cl, A1, A2, A3, A4, A5, A6⟩ := A
  exact wrote ha (fun vm0 hZ SL => Safe.arr hZ.alike A1 (by decide)) (fun T vm0 locs k1 n1 X eT hZ hown => stC X B.1 hZ eT A1 (inb_of A3 hj) (g := mkF m pc Ls (.int x :: .int j :: .ref a :: rest)) rfl rfl (hb B.2.1 hd)) (fun h' W => hr h' (Keep.of_wr W) (Arv.set A1 A2 A3 A4 A5 A6 (fits_nar_char x) W i hi hlt))
theorem bastore (B : Bdy p meth c Z EL a0 bytes maxL ret nm) {a : Addr} {kc : ClassId} {z j x : Int32} {vs : List Value} {dv : Value} {i : Nat} (hd : decode bytes pc = .ok (.bastore, 1)) (A : Arv Z h a kc .byte z vs dv) (hj : ¬ j < 0 ∧ j < z) (hsafe : a ∈ S)
    (hr : ∀ h', Keep h h' [a] → Arv Z h' a kc .byte z (vs.set i (.int (nar .byte x))) dv → Go p l e R s m args below meth c Z EL n0 own Q S h' k n pc' Ls rest) (hp : pc' = pc + 1 := by rfl) (ha : n0 ≤ a := by omega) (hlt : i < vs.length := by simp) (hi : j.toNatClampNeg = i := by decide) : Go p l e R s m args below meth c Z EL n0 own Q S h k n pc Ls (.int x :: .int j :: .ref a :: rest) := by
  subst hp
  obtain ⟨cl, A1, A2, A3, A4, A5, A6⟩ := A
  exact wrote ha (fun vm0 hZ SL => (SL a hsafe).2) (fun T vm0 locs k1 n1 X eT hZ hown => stB X B.1 hZ eT A1 (inb_of A3 hj) (g := mkF m pc Ls (.int x :: .int j :: .ref a :: rest)) rfl rfl (hb B.2.1 hd)) (fun h' W => hr h' (Keep.of_wr W) (Arv.set A1 A2 A3 A4 A5 A6 (fits_nar_byte x) W i hi hlt))
theorem arrlen (B : Bdy p meth c Z EL a0 bytes maxL ret nm) {a : Addr} {kc : ClassId} {ty : FieldType} {z : Int32} {vs : List Value} {dv : Value} (hd : decode bytes pc = .ok (.arraylength, 1)) (A : Arv Z h a kc ty z vs dv) (hr : Go p l e R s m args below meth c Z EL n0 own Q S h k n pc' Ls (.int z :: rest)) (hp : pc' = pc + 1 := by rfl) : Go p l e R s m args below meth c Z EL n0 own Q S h k n pc Ls (.ref a :: rest) := by
  subst hp
  obtain ⟨cl, A1, A2, A3, A4, A5, A6⟩ := A
  exact warm hr fun T vm0 locs k1 n1 X eT hZ hown _ => ⟨T, X, eT, fun t q => X.arraylength B.1 (by rw [eT]; exact A1.1) (State.isArrayOf_alike hZ.alike A1.2.1) (g := mkF m pc Ls (.ref a :: rest)) rfl rfl (hb B.2.1 hd) t (by rw [len_of A3 A4]; exact q)⟩
theorem caload (B : Bdy p meth c Z EL a0 bytes maxL ret nm) {a : Addr} {kc : ClassId} {z j : Int32} {vs : List Value} {dv v : Value} (hd : decode bytes pc = .ok (.caload, 1)) (A : Arv Z h a kc .char z vs dv) (hj : ¬ j < 0 ∧ j < z) (hv : vs.getD j.toNatClampNeg dv = v) (hr : Go p l e R s m args below meth c Z EL n0 own Q S h k n pc' Ls (v :: rest)) (hp : pc' = pc + 1 := by rfl) : Go p l e R s m args below meth c Z EL n0 own Q S h k n pc Ls (.int j :: .ref a :: rest) := by
  subst hp
  obtain ⟨cl, A1, A2, A3, A4, A5, A6⟩ := A
  exact warm hr fun T vm0 locs k1 n1 X eT hZ hown _ => ⟨T, X, eT, fun t q => X.caload B.1 (by rw [eT]; exact A1.1) (State.isArrayOf_alike hZ.alike A1.2.1) A1.2.2 (inb_of A3 hj) (Has.at A5 (inb_of A3 hj) hv) (g := mkF m pc Ls (.int j :: .ref a :: rest)) rfl rfl (hb B.2.1 hd) t q⟩
theorem baload (B : Bdy p meth c Z EL a0 bytes maxL ret nm) {a : Addr} {kc : ClassId} {z j : Int32} {vs : List Value} {dv v : Value} (hd : decode bytes pc = .ok (.baload, 1)) (A : Arv Z h a kc .byte z vs dv) (hj : ¬ j < 0 ∧ j < z) (hv : vs.getD j.toNatClampNeg dv = v) (hr : Go p l e R s m args below meth c Z EL n0 own Q S h k n pc' Ls (v :: rest)) (hp : pc' = pc + 1 := by rfl) : Go p l e R s m args below meth c Z EL n0 own Q S h k n pc Ls (.int j :: .ref a :: rest) := by
  subst hp
  obtain ⟨cl, A1, A2, A3, A4, A5, A6⟩ := A
  exact warm hr fun T vm0 locs k1 n1 X eT hZ hown _ => ⟨T, X, eT, fun t q => X.baloadBytes B.1 (by rw [eT]; exact A1.1) (State.isArrayOf_alike hZ.alike A1.2.1) A1.2.2 (inb_of A3 hj) (Has.at A5 (inb_of A3 hj) hv) (g := mkF m pc Ls (.int j :: .ref a :: rest)) rfl rfl (hb B.2.1 hd) t q⟩
theorem objInit (B : Bdy p meth c Z EL a0 bytes maxL ret nm) {index W : Nat} {a : Addr} (hd : decode bytes pc = .ok (.invokespecial index, 3)) (w1 : (Jvm.Cond.methodLink own index Lib.objectInit).before a0 Z = true) (w2 : (Jvm.Cond.instanceMethod Lib.objectInit).before a0 Z = true) (w3 : (Jvm.Cond.code Lib.objectInit ⟨#[0xb1]⟩ 1 none).before a0 Z = true) (hr : Go p l e R s m args below meth c Z EL n0 own Q S h k n pc' Ls rest) (hp : pc' = pc + 3 := by rfl) (hsz : Ls.size = maxL := by rfl) (hW : (rest.map fun v => v.category).sum ≤ W := by exact Nat.le_of_eq rfl) (hf : 1 ≤ R.frames := by decide) (hl : W + 12 ≤ R.locals := by decide) : Go p l e R s m args below meth c Z EL n0 own Q S h k n pc Ls (.ref a :: rest) := by
  subst hp
  exact warm hr fun T vm0 locs k1 n1 X eT hZ hown _ => initO X B.1 hZ hown w1 w2 w3 eT (g := mkF m pc Ls (.ref a :: rest)) rfl (by rw [B.2.2.1]; exact hsz) rfl (hb B.2.1 hd) hf (W := W) (by show 2 * 0 + _ ≤ _; omega) hl
theorem ldcInt (B : Bdy p meth c Z EL a0 bytes maxL ret nm) {index : Nat} {x : Int32} (hd : decode bytes pc = .ok (.ldc index, 2)) (w : (Jvm.Cond.constant own index x).before a0 Z = true) (hr : Go p l e R s m args below meth c Z EL n0 own Q S h k n pc' Ls (.int x :: st)) (hp : pc' = pc + 2 := by rfl) : Go p l e R s m args below meth c Z EL n0 own Q S h k n pc Ls st := by
  subst hp
  exact warm hr fun T vm0 locs k1 n1 X eT hZ hown _ => ⟨T, X, eT, fun t q => X.ldcInt B.1 hown (mvT (s := s.setVm vm0) hZ w) (g := mkF m pc Ls st) rfl (hb B.2.1 hd) t q⟩
theorem ldcText (B : Bdy p meth c Z EL a0 bytes maxL ret nm) {index nn : Nat} {text : String} (hd : decode bytes pc = .ok (.ldc index, 2)) (w : (Jvm.Cond.stringLink own index text).before a0 Z = true) (hmem : (own, index) ∈ EL) {vs : List Value} {z : Int32} (ht : (∀ c ∈ text.toList, c.toNat < 256) ∧ text.toList.map (fun c => Value.int (Jvm.Lit.byteI c.toNat.toUInt16)) = vs) (hz : ¬ z < 0) (hlz : z.toNatClampNeg = vs.length) 
    (hr : ∀ (h' : Heap) (a b : Nat) (kb : ClassId), Keep h h' [] → Exa Z h' a "java/lang/String" → Fld Z h' a "java/lang/String" "coder" "B" (.int 0) → Fld Z h' a "java/lang/String" "value" "[B" (.ref b) → Arv Z h' b kb .byte z vs (.int 0) → (∀ x ∈ S, x ≠ a ∧ x ≠ b) → Go p l e R s m args below meth c Z EL n0 own Q S h' k' n' pc' Ls (.ref a :: st)) (hp : pc' = pc + 2 := by rfl) (hk : k + 2 ≤ k' := by decide) (hn : n + (nn + 4) ≤ n' := by decide) (hkR : k' ≤ R.cells := by decide) (hnR : n' ≤ R.slots := by decide) (hnn : 4 * text.toList.length ≤ nn := by decide) (hbig : nn ≤ 536870912 := by decide) : Go p l e R s m args below meth c Z EL n0 own Q S h k n pc Ls st := by
  subst hp
  intro T ⟨locs, vm0, k0, k1, n1, q1, q2, X, eT, hS, hk0, hZ, hown, N, O, C, SL⟩
  obtain ⟨a, T', h', k2, b, kb, X', e', E, hS', hk', hZ', hown', f1, f2, f3, f4, -, -, C', -, ne, sp⟩ := ldcCH (EL := EL) X B.1 hZ hown w B.2.2.2.2.2.2.2 eT hS hk0 B.2.2.2.2.2.2.1 hmem C.1 ht hz hlz (g := mkF m pc Ls st) rfl (hb B.2.1 hd) hnn hbig (by omega) (by omega)
  have SL' := SL.chr C'
  obtain ⟨s2, o, q, r2⟩ := hr h' a b kb (keepE E) f1 f2 f3 f4 (fun x hx => ne x (SL' x hx).2) T' ⟨locs, T'.vm, k2, k1 + 2, n1 + (nn + 4), by omega, by omega, X', e', hS', hk', hZ', hown', N, O.ext E, C.trans C', SL'⟩
  exact ⟨s2, o, sp _ q, r2⟩
theorem finish (B : Bdy p meth c Z EL a0 bytes maxL ret nm) {v : Option Value} (hv : ret = none → v = none) (hQ : Q v h S') 
    (sp : ∀ (s' T : State) (locs : List Loc) (k1 n1 : Nat) (fs : List Frame), Stand p l e R s' m args below meth c T locs k1 n1 → (∀ (f : JFrame) (acts : List Action), f.method = m → f.locked = none → f.entered = [] → (doReturn e (T.setTop f) acts v).1 = T.setFrames fs) → Steps p.tables e below (T.setTop (mkF m pc Ls st)) (T.setFrames fs)) (hkR : k ≤ R.cells := by decide) (hnR : n ≤ R.slots := by decide) (hsub : ∀ x ∈ S', x ∈ S := by simp) : Go p l e R s m args below meth c Z EL n0 own Q S h k n pc Ls st := by
  intro T ⟨locs, vm0, k0, k1, n1, q1, q2, X, eT, hS, hk0, hZ, hown, N, O, C, SL⟩
  obtain ⟨fs, hr, hrun, hended, hE⟩ := X.leaveW (v := v) hS (by rw [eT]; exact hk0) (fun z => hv (B.2.2.2.1.symm.trans z)) B.2.2.2.2.2.1
  have A := CHv.at X hZ B.2.2.2.2.2.2.1 C.1
  subst eT
  exact ⟨_, _, sp _ T locs k1 n1 fs X hr, hrun, hended, v, locs, S', rfl, ⟨hQ, N, O, (SL.chr A).sub hsub⟩, C.trans A, hE.1, hE.2.1, hE.2.2.1, hE.2.2.2.mono (by omega) (by omega)⟩
theorem retV (B : Bdy p meth c Z EL a0 bytes maxL ret nm) (hd : decode bytes pc = .ok (.return_, 1)) (hQ : Q none h S') (hkR : k ≤ R.cells := by decide) (hnR : n ≤ R.slots := by decide) (hret : ret = none := by rfl) (hsub : ∀ x ∈ S', x ∈ S := by simp) : Go p l e R s m args below meth c Z EL n0 own Q S h k n pc Ls [] :=
  finish B (fun _ => rfl) hQ (fun s' T locs k1 n1 fs X hr => X.returnOut B.1 (B.2.2.2.1.trans hret) (hb B.2.1 hd) hr) hkR hnR hsub
theorem retA (B : Bdy p meth c Z EL a0 bytes maxL ret nm) {t : FieldType} {w : Value} (hd : decode bytes pc = .ok (.areturn, 1)) (hQ : Q (some w) h S') (hkR : k ≤ R.cells := by decide) (hnR : n ≤ R.slots := by decide) (hret : ret = some t := by rfl) (hsub : ∀ x ∈ S', x ∈ S := by simp) (hw : w.isRef = true := by rfl) (hnn : narrow t w = w := by rfl) (ht : t.isReference = true := by rfl) : Go p l e R s m args below meth c Z EL n0 own Q S h k n pc Ls (w :: rest) :=
  finish B (fun z => by rw [hret] at z; cases z) hQ (fun s' T locs k1 n1 fs X hr => retOut X B.1 (B.2.2.2.1.trans hret) hnn (Or.inr (Or.inr (Or.inr (Or.inr ⟨rfl, ht, hw⟩)))) (hb B.2.1 hd) hr) hkR hnR hsub
theorem retI (B : Bdy p meth c Z EL a0 bytes maxL ret nm) {t : FieldType} {w : Int32} (hd : decode bytes pc = .ok (.ireturn, 1)) (hQ : Q (some (.int w)) h S') (hkR : k ≤ R.cells := by decide) (hnR : n ≤ R.slots := by decide) (hret : ret = some t := by rfl) (hsub : ∀ x ∈ S', x ∈ S := by simp) (hnn : narrow t (.int w) = .int w := by rfl) (ht : t = .int ∨ t = .boolean ∨ t = .byte ∨ t = .char ∨ t = .short := by simp) : Go p l e R s m args below meth c Z EL n0 own Q S h k n pc Ls (.int w :: rest) :=
  finish B (fun z => by rw [hret] at z; cases z) hQ (fun s' T locs k1 n1 fs X hr => retOut X B.1 (B.2.2.2.1.trans hret) hnn (Or.inl ⟨rfl, ht, _, rfl⟩) (hb B.2.1 hd) hr) hkR hnR hsub
def Str (Z : State) (h : Heap) (a t : Addr) (kb : ClassId) (cod z : Int32) (vs : List Value) : Prop := Exa Z h a "java/lang/String" ∧ Fld Z h a "java/lang/String" "coder" "B" (.int cod) ∧ Fld Z h a "java/lang/String" "value" "[B" (.ref t) ∧ Arv Z h t kb .byte z vs (.int 0)
def Rng (cs : List Int32) : Prop := ∀ x ∈ cs, ¬ x < (0 : Int32) ∧ ¬ (65535 : Int32) < x
def Lat (cs : List Int32) : Prop := ∀ x ∈ cs, ¬ (255 : Int32) < x
def Chs (Z : State) (h : Heap) (a t : Addr) (kb : ClassId) (cs : List Int32) : Prop := Exa Z h a "java/lang/String" ∧ Fld Z h a "java/lang/String" "value" "[B" (.ref t) ∧ Rng cs ∧
  ((Fld Z h a "java/lang/String" "coder" "B" (.int 0) ∧ Arv Z h t kb .byte (Int32.ofNat cs.length) (cs.map fun x => .int x.toInt8.toInt32) (.int 0) ∧ Lat cs) ∨
   (Fld Z h a "java/lang/String" "coder" "B" (.int 1) ∧ Arv Z h t kb .byte (Int32.ofNat (2 * cs.length)) (cs.flatMap fun x => [.int x.toInt8.toInt32, .int (x >>> ((8 : Int32) &&& 31)).toInt8.toInt32]) (.int 0) ∧ ∃ x ∈ cs, (255 : Int32) < x))
theorem Chs.keep {a t : Addr} {kb : ClassId} {cs : List Int32} {ws : List Addr} (F : Chs Z h a t kb cs) (K : Keep h h' ws) (qa : a ∉ ws) (qt : t ∉ ws) : Chs Z h' a t kb cs := by
  obtain ⟨E, V, r, ⟨C, A, L⟩ | ⟨C, A, L⟩⟩ := F
  · exact ⟨E.keep K, V.keep K qa, r, Or.inl ⟨C.keep K qa, A.keep K qt, L⟩⟩
  · exact ⟨E.keep K, V.keep K qa, r, Or.inr ⟨C.keep K qa, A.keep K qt, L⟩⟩
theorem Chs.lt {a t : Addr} {kb : ClassId} {cs : List Int32} (F : Chs Z h a t kb cs) : a < h.size := F.1.lt
theorem Chs.ltt {a t : Addr} {kb : ClassId} {cs : List Int32} (F : Chs Z h a t kb cs) : t < h.size := by
  obtain ⟨E, V, r, ⟨C, A, L⟩ | ⟨C, A, L⟩⟩ := F
  · exact A.lt
  · exact A.lt
theorem eq_int_v {args : Array Value} {first s' : State} {o : Option Outcome} {idx : List Nat} {t : Term} {c : Int32} (hq : (Jvm.Cond.eq t (.int c)).value args first o s' idx = some true) : t.eval args first o idx s' = some (.int c) := by
  simp only [Cond.value, Term.int_eval] at hq
  cases ht : t.eval args first o idx s' with
  | none => rw [ht] at hq; simp at hq
  | some v => rw [ht] at hq; cases v <;> simp_all
def Glo (Z : State) (cz : Int32) (sf : Value) : Prop := Sta Z Z.heap "java/lang/String" "COMPACT_STRINGS" "Z" (.int cz) ∧ cz ≠ 0 ∧ Sta Z Z.heap "jdk/internal/util/Preconditions" "SIOOBE_FORMATTER" "Ljava/util/function/BiFunction;" sf ∧ sf.isRef = true
theorem nnAnd (x y : Int32) : (x &&& y).toBitVec.toNat ≤ y.toBitVec.toNat := by
  have : (x &&& y).toBitVec.toNat = x.toBitVec.toNat &&& y.toBitVec.toNat := by simp
  rw [this]; exact Nat.and_le_right
theorem toInt_small {x : Int32} {n : Nat} (h : x.toBitVec.toNat ≤ n) (hn : n < 2147483648) : x.toInt = x.toBitVec.toNat := by
  show x.toBitVec.toInt = _
  rw [BitVec.toInt_eq_toNat_of_lt (by omega)]
/-- x &&& y for y from 0: from 0 to y -/
theorem and_rng (x : Int32) {y : Int32} {n : Nat} (hy : y.toBitVec.toNat = n) (hn : n < 2147483648) : 0 ≤ (x &&& y).toInt ∧ (x &&& y).toInt ≤ n := by
  have h := nnAnd x y
  rw [hy] at h
  have := toInt_small h hn
  omega
theorem rem_rng {x y : Int32} {n : Nat} (hx : 0 ≤ x.toInt) (hy : y.toInt = n) (hn : 0 < n) : 0 ≤ (x % y).toInt ∧ (x % y).toInt < n := by
  rw [Int32.toInt_mod, hy]
  have h1 := Int.tmod_nonneg (n : Int) hx
  have h2 := Int.tmod_lt_of_pos x.toInt (show (0 : Int) < n by omega)
  omega
theorem maxrem5 (x : Int32) : (x &&& 2147483647) % 5 = 0 ∨ (x &&& 2147483647) % 5 = 1 ∨ (x &&& 2147483647) % 5 = 2 ∨ (x &&& 2147483647) % 5 = 3 ∨ (x &&& 2147483647) % 5 = 4 := by
  have k := rem_rng (and_rng x (y := 2147483647) (n := 2147483647) (by decide) (by decide)).1 (y := 5) (n := 5) (by decide) (by decide)
  generalize (x &&& 2147483647) % 5 = z at *
  have k : z.toInt = 0 ∨ z.toInt = 1 ∨ z.toInt = 2 ∨ z.toInt = 3 ∨ z.toInt = 4 := by omega
  exact k.imp Int32.toInt_inj.mp (Or.imp Int32.toInt_inj.mp (Or.imp Int32.toInt_inj.mp (Or.imp Int32.toInt_inj.mp Int32.toInt_inj.mp)))
theorem i2c_idem (x : Int32) : (x.toUInt32.toUInt16.toUInt32.toInt32).toUInt32.toUInt16.toUInt32.toInt32 = x.toUInt32.toUInt16.toUInt32.toInt32 := by
  have h : ∀ u : UInt16, u.toUInt32.toInt32.toUInt32.toUInt16 = u := fun u => by simp
  rw [h]
theorem i2c_rng {x c : Int32} (hc : x.toUInt32.toUInt16.toUInt32.toInt32 = c) : 0 ≤ c.toInt ∧ c.toInt ≤ 65535 := by
  subst hc
  have := x.toUInt32.toUInt16.toNat_lt
  have h : (x.toUInt32.toUInt16.toUInt32.toInt32).toBitVec.toNat ≤ 65535 := by
    show (x.toUInt32.toUInt16.toUInt32).toNat ≤ _
    simp only [UInt16.toNat_toUInt32]
    omega
  have := toInt_small h (by decide)
  omega
theorem cge0 {x c : Int32} (hc : x.toUInt32.toUInt16.toUInt32.toInt32 = c) : ¬ c < (0 : Int32) := by
  have := i2c_rng hc
  rw [Int32.lt_iff_toInt_lt, show (0 : Int32).toInt = 0 from by decide]; omega
theorem cnar {x c : Int32} (hc : x.toUInt32.toUInt16.toUInt32.toInt32 = c) : nar .char c = c := by subst hc; exact i2c_idem x
theorem cnarrow {c : Int32} (hc : nar .char c = c) : narrow .char (.int c) = .int c := congrArg Value.int hc
theorem rng255 {x : Int32} (h0 : ¬ x < (0 : Int32)) (h1 : ¬ (255 : Int32) < x) : 0 ≤ x.toInt ∧ x.toInt ≤ 255 := by
  rw [Int32.lt_iff_toInt_lt, show (0 : Int32).toInt = 0 from by decide] at h0
  rw [Int32.lt_iff_toInt_lt, show (255 : Int32).toInt = 255 from by decide] at h1
  omega
theorem ofRng {x : Int32} {n : Nat} (hn : n < 2147483648) (h : 0 ≤ x.toInt ∧ x.toInt ≤ n) : ∃ k : Nat, k ≤ n ∧ x = Int32.ofNat k := by
  refine ⟨x.toInt.toNat, by omega, Int32.toInt_inj.mp ?_⟩
  rw [Int32.toInt_ofNat_of_lt (by omega)]; omega
theorem all256 (P : Int32 → Bool) (h : (List.range 256).all (fun k => P (Int32.ofNat k)) = true) {x : Int32} (h0 : ¬ x < (0 : Int32)) (h1 : ¬ (255 : Int32) < x) : P x = true := by
  obtain ⟨k, hk, rfl⟩ := ofRng (n := 255) (by decide) (by have := rng255 h0 h1; omega)
  exact List.all_eq_true.mp h k (List.mem_range.mpr (by omega))
theorem b255 {x : Int32} (h0 : ¬ x < (0 : Int32)) (h1 : ¬ (255 : Int32) < x) : x.toInt8.toInt32 &&& 255 = x := by
  have := all256 (fun x => x.toInt8.toInt32 &&& 255 == x) (by decide +kernel) h0 h1
  exact eq_of_beq this
theorem c_id {x : Int32} (h0 : ¬ x < (0 : Int32)) (h1 : ¬ (255 : Int32) < x) : x.toUInt32.toUInt16.toUInt32.toInt32 = x := by
  have := all256 (fun x => x.toUInt32.toUInt16.toUInt32.toInt32 == x) (by decide +kernel) h0 h1
  exact eq_of_beq this
theorem nar_id {x : Int32} (h0 : ¬ x < (0 : Int32)) (h1 : ¬ (255 : Int32) < x) : nar .char x = x := c_id h0 h1
theorem low8 (b : BitVec 8) : (b.signExtend 32 &&& 255#32).toNat = b.toNat := by
  have : ∀ b : BitVec 8, (b.signExtend 32 &&& 255#32).toNat = b.toNat := by decide
  exact this b
theorem lo_nat (x : Int32) : (x.toInt8.toInt32 &&& 255).toBitVec.toNat = x.toBitVec.toNat % 256 := by
  have h := low8 x.toInt8.toBitVec
  have e : (x.toInt8.toInt32 &&& 255).toBitVec = (x.toInt8.toBitVec.signExtend 32 &&& 255#32) := by
    simp
  rw [e, h, Int32.toBitVec_toInt8]
  rw [BitVec.toNat_signExtend]
  simp [BitVec.toNat_setWidth]
theorem shr8 (x : Int32) (h : x.toBitVec.toNat < 65536) : (x >>> ((8 : Int32) &&& 31)).toBitVec.toNat = x.toBitVec.toNat / 256 := by
  have e : (x >>> ((8 : Int32) &&& 31)).toBitVec = x.toBitVec.sshiftRight 8 := by
    have : ((8 : Int32) &&& 31) = 8 := by decide
    rw [this, Int32.toBitVec_shiftRight]
    rfl
  rw [e, BitVec.sshiftRight_eq_of_msb_false (by rw [BitVec.msb_eq_false_iff_two_mul_lt]; omega)]
  rw [BitVec.toNat_ushiftRight]
  rw [Nat.shiftRight_eq_div_pow]
theorem shl8 (x : Int32) : (x <<< ((8 : Int32) &&& 31)).toBitVec.toNat = (x.toBitVec.toNat * 256) % 4294967296 := by
  have e : (x <<< ((8 : Int32) &&& 31)).toBitVec = x.toBitVec <<< 8 := by
    have : ((8 : Int32) &&& 31) = 8 := by decide
    rw [this, Int32.toBitVec_shiftLeft]
    rfl
  rw [e, BitVec.toNat_shiftLeft, Nat.shiftLeft_eq]
theorem shl0 (x : Int32) : x <<< ((0 : Int32) &&& 31) = x := by
  apply Int32.toBitVec_inj.mp
  simp
theorem toNat_rng {x : Int32} {n : Nat} (h0 : 0 ≤ x.toInt) (h1 : x.toInt ≤ n) (hn : n < 2147483648) : x.toBitVec.toNat ≤ n := by
  have e : x.toInt = x.toBitVec.toInt := rfl
  rw [e] at h0 h1
  have hlt := x.toBitVec.isLt
  rw [BitVec.toInt_eq_toNat_cond] at h0 h1
  split at h0 <;> omega
theorem rng65535 {x : Int32} (h0 : ¬ x < (0 : Int32)) (h1 : ¬ (65535 : Int32) < x) : x.toBitVec.toNat ≤ 65535 := by
  rw [Int32.lt_iff_toInt_lt, show (0 : Int32).toInt = 0 from by decide] at h0
  rw [Int32.lt_iff_toInt_lt, show (65535 : Int32).toInt = 65535 from by decide] at h1
  exact toNat_rng (by omega) (by omega) (by decide)
theorem u16 {x : Int32} (h0 : ¬ x < (0 : Int32)) (h1 : ¬ (65535 : Int32) < x) : ((x.toInt8.toInt32 &&& 255) <<< ((0 : Int32) &&& 31)) ||| (((x >>> ((8 : Int32) &&& 31)).toInt8.toInt32 &&& 255) <<< ((8 : Int32) &&& 31)) = x := by
  have h := rng65535 h0 h1
  rw [shl0]
  apply Int32.toBitVec_inj.mp
  apply BitVec.eq_of_toNat_eq
  rw [Int32.toBitVec_or, BitVec.toNat_or, lo_nat, shl8, lo_nat, shr8 x (by omega)]
  generalize x.toBitVec.toNat = n at *
  have e1 : n / 256 % 256 * 256 % 4294967296 = (n / 256) <<< 8 := by rw [Nat.shiftLeft_eq]; omega
  rw [e1, Nat.or_comm, ← Nat.shiftLeft_add_eq_or_of_lt (by omega : n % 256 < 2 ^ 8), Nat.shiftLeft_eq]
  omega
theorem shr0 (x : Int32) : x >>> ((0 : Int32) &&& 31) = x := by
  apply Int32.toBitVec_inj.mp
  simp
theorem cle16 {x c : Int32} (hc : x.toUInt32.toUInt16.toUInt32.toInt32 = c) : ¬ (65535 : Int32) < c := by
  have := i2c_rng hc
  rw [Int32.lt_iff_toInt_lt, show (65535 : Int32).toInt = 65535 from by decide]; omega
theorem nar_b (x : Int32) : nar .byte x.toInt8.toInt32 = x.toInt8.toInt32 := by simp [nar]
end Rules
end Jvm.Ow
namespace Jvm.Pilot.@@N@@
open Jvm Jvm.ClassFile Sem Op Lib Jvm.Free Jvm.Stand Jvm.LawKit Jvm.RoadKit Bundle Jvm.Pilot.@@N@@.Jvm.D
abbrev EL1 : List (String × Nat) := [("java/lang/String", 7), ("com/example/countersign/countersign/request/Header", 78)]
abbrev Hw (a0 : Array Value) (Z : State) : Prop := ∀ d ∈ tables_1, d.before a0 Z = true
abbrev my0 : MethodName := { cls := "java/lang/String", name := "<init>", desc := "([CIILjava/lang/Void;)V" }
abbrev my1 : MethodName := { cls := "java/lang/String", name := "<init>", desc := "([C)V" }
abbrev my2 : MethodName := { cls := "com/example/countersign/countersign/request/HeaderIsTokenPinLaw", name := "make", desc := "(ICCCC)Ljava/lang/String;" }
abbrev my3 : MethodName := { cls := "java/lang/String", name := "isEmpty", desc := "()Z" }
abbrev my4 : MethodName := { cls := "com/example/countersign/countersign/request/Header", name := "isToken", desc := "(Ljava/lang/String;)Z" }
abbrev my5 : MethodName := { cls := "java/lang/StringUTF16", name := "compress", desc := "([CI[BII)I" }
abbrev my6 : MethodName := { cls := "java/lang/StringUTF16", name := "newBytesLength", desc := "(I)I" }
abbrev my7 : MethodName := { cls := "java/lang/StringUTF16", name := "newBytesFor", desc := "(I)[B" }
abbrev my8 : MethodName := { cls := "java/lang/StringUTF16", name := "putChar", desc := "([BII)V" }
abbrev my9 : MethodName := { cls := "java/lang/StringUTF16", name := "toBytes", desc := "([CII)[B" }
abbrev my10 : MethodName := { cls := "java/lang/StringUTF16", name := "getChar", desc := "([BI)C" }
abbrev my11 : MethodName := { cls := "java/lang/StringUTF16", name := "compress", desc := "([CII)[B" }
abbrev my12 : MethodName := { cls := "java/lang/StringUTF16", name := "coderFromArrayLen", desc := "([BI)B" }
abbrev my13 : MethodName := { cls := "com/example/countersign/countersign/request/HeaderIsTokenPinLaw", name := "delimiter", desc := "(I)Z" }
abbrev my14 : MethodName := { cls := "com/example/countersign/countersign/request/HeaderIsTokenPinLaw", name := "tchar", desc := "(I)Z" }
abbrev my15 : MethodName := { cls := "java/lang/String", name := "coder", desc := "()B" }
abbrev my16 : MethodName := { cls := "java/lang/String", name := "length", desc := "()I" }
abbrev my17 : MethodName := { cls := "java/lang/String", name := "isLatin1", desc := "()Z" }
abbrev my18 : MethodName := { cls := "jdk/internal/util/Preconditions", name := "checkIndex", desc := "(IILjava/util/function/BiFunction;)I" }
abbrev my19 : MethodName := { cls := "java/lang/String", name := "checkIndex", desc := "(II)V" }
abbrev my20 : MethodName := { cls := "java/lang/StringLatin1", name := "charAt", desc := "([BI)C" }
abbrev my21 : MethodName := { cls := "java/lang/StringUTF16", name := "length", desc := "([B)I" }
abbrev my22 : MethodName := { cls := "java/lang/StringUTF16", name := "checkIndex", desc := "(I[B)V" }
abbrev my23 : MethodName := { cls := "java/lang/StringUTF16", name := "charAt", desc := "([BI)C" }
abbrev my24 : MethodName := { cls := "java/lang/String", name := "charAt", desc := "(I)C" }
abbrev my25 : MethodName := { cls := "java/lang/StringLatin1", name := "canEncode", desc := "(I)Z" }
abbrev my26 : MethodName := { cls := "java/lang/Math", name := "max", desc := "(II)I" }
abbrev my27 : MethodName := { cls := "java/lang/Math", name := "min", desc := "(II)I" }
abbrev my28 : MethodName := { cls := "java/lang/StringLatin1", name := "indexOfChar", desc := "([BIII)I" }
abbrev my29 : MethodName := { cls := "java/lang/StringLatin1", name := "indexOf", desc := "([BIII)I" }
abbrev my30 : MethodName := { cls := "java/lang/String", name := "indexOf", desc := "(II)I" }
abbrev my31 : MethodName := { cls := "java/lang/String", name := "indexOf", desc := "(I)I" }
theorem w0 {a0 : Array Value} {Z : State} (hw : Hw a0 Z) : (Jvm.Cond.constant "com/example/countersign/countersign/request/HeaderIsTokenPinLaw" (18 : Nat) (2147483647 : Int32)).before a0 Z = true := hw _ (List.mem_of_getElem? (i := 0) rfl)
theorem w1 {a0 : Array Value} {Z : State} (hw : Hw a0 Z) : (Jvm.Cond.constant "com/example/countersign/countersign/request/HeaderIsTokenPinLaw" (19 : Nat) (65535 : Int32)).before a0 Z = true := hw _ (List.mem_of_getElem? (i := 1) rfl)
theorem w2 {a0 : Array Value} {Z : State} (hw : Hw a0 Z) : (Jvm.Cond.methodLink "com/example/countersign/countersign/request/HeaderIsTokenPinLaw" (20 : Nat) ({ cls := "com/example/countersign/countersign/request/HeaderIsTokenPinLaw", name := "make", desc := "(ICCCC)Ljava/lang/String;" } : Jvm.MethodName)).before a0 Z = true := hw _ (List.mem_of_getElem? (i := 2) rfl)
theorem w3 {a0 : Array Value} {Z : State} (hw : Hw a0 Z) : (Jvm.Cond.static ({ cls := "com/example/countersign/countersign/request/HeaderIsTokenPinLaw", name := "make", desc := "(ICCCC)Ljava/lang/String;" } : Jvm.MethodName)).before a0 Z = true := hw _ (List.mem_of_getElem? (i := 3) rfl)
theorem w4 {a0 : Array Value} {Z : State} (hw : Hw a0 Z) : (Jvm.Cond.initialized "com/example/countersign/countersign/request/HeaderIsTokenPinLaw").before a0 Z = true := hw _ (List.mem_of_getElem? (i := 4) rfl)
theorem w5 {a0 : Array Value} {Z : State} (hw : Hw a0 Z) : (Jvm.Cond.code ({ cls := "com/example/countersign/countersign/request/HeaderIsTokenPinLaw", name := "make", desc := "(ICCCC)Ljava/lang/String;" } : Jvm.MethodName) method_4_code (6 : Nat) (Option.some (Jvm.ClassFile.FieldType.object "java/lang/String"))).before a0 Z = true := hw _ (List.mem_of_getElem? (i := 5) rfl)
theorem w6 {a0 : Array Value} {Z : State} (hw : Hw a0 Z) : (Jvm.Cond.classLink "com/example/countersign/countersign/request/HeaderIsTokenPinLaw" (13 : Nat) "java/lang/String").before a0 Z = true := hw _ (List.mem_of_getElem? (i := 6) rfl)
theorem w7 {a0 : Array Value} {Z : State} (hw : Hw a0 Z) : (Jvm.Cond.instantiable "java/lang/String" (4 : Nat)).before a0 Z = true := hw _ (List.mem_of_getElem? (i := 7) rfl)
theorem w8 {a0 : Array Value} {Z : State} (hw : Hw a0 Z) : (Jvm.Cond.initialized "java/lang/String").before a0 Z = true := hw _ (List.mem_of_getElem? (i := 8) rfl)
theorem w9 {a0 : Array Value} {Z : State} (hw : Hw a0 Z) : (Jvm.Cond.arrayClass Jvm.ClassFile.FieldType.char).before a0 Z = true := hw _ (List.mem_of_getElem? (i := 9) rfl)
theorem w10 {a0 : Array Value} {Z : State} (hw : Hw a0 Z) : (Jvm.Cond.methodLink "com/example/countersign/countersign/request/HeaderIsTokenPinLaw" (15 : Nat) ({ cls := "java/lang/String", name := "<init>", desc := "([C)V" } : Jvm.MethodName)).before a0 Z = true := hw _ (List.mem_of_getElem? (i := 10) rfl)
theorem w11 {a0 : Array Value} {Z : State} (hw : Hw a0 Z) : (Jvm.Cond.instanceMethod ({ cls := "java/lang/String", name := "<init>", desc := "([C)V" } : Jvm.MethodName)).before a0 Z = true := hw _ (List.mem_of_getElem? (i := 11) rfl)
theorem w12 {a0 : Array Value} {Z : State} (hw : Hw a0 Z) : (Jvm.Cond.code ({ cls := "java/lang/String", name := "<init>", desc := "([C)V" } : Jvm.MethodName) jdk_42_method_3_code (2 : Nat) (Option.none : Option Jvm.ClassFile.FieldType)).before a0 Z = true := hw _ (List.mem_of_getElem? (i := 12) rfl)
theorem w13 {a0 : Array Value} {Z : State} (hw : Hw a0 Z) : (Jvm.Cond.methodLink "java/lang/String" (27 : Nat) ({ cls := "java/lang/String", name := "<init>", desc := "([CIILjava/lang/Void;)V" } : Jvm.MethodName)).before a0 Z = true := hw _ (List.mem_of_getElem? (i := 13) rfl)
theorem w14 {a0 : Array Value} {Z : State} (hw : Hw a0 Z) : (Jvm.Cond.instanceMethod ({ cls := "java/lang/String", name := "<init>", desc := "([CIILjava/lang/Void;)V" } : Jvm.MethodName)).before a0 Z = true := hw _ (List.mem_of_getElem? (i := 14) rfl)
theorem w16 {a0 : Array Value} {Z : State} (hw : Hw a0 Z) : (Jvm.Cond.code ({ cls := "java/lang/String", name := "<init>", desc := "([CIILjava/lang/Void;)V" } : Jvm.MethodName) jdk_42_method_149_code (6 : Nat) (Option.none : Option Jvm.ClassFile.FieldType)).before a0 Z = true := hw _ (List.mem_of_getElem? (i := 16) rfl)
theorem w17 {a0 : Array Value} {Z : State} (hw : Hw a0 Z) : (Jvm.Cond.methodLink "java/lang/String" (1 : Nat) ({ cls := "java/lang/Object", name := "<init>", desc := "()V" } : Jvm.MethodName)).before a0 Z = true := hw _ (List.mem_of_getElem? (i := 17) rfl)
theorem w18 {a0 : Array Value} {Z : State} (hw : Hw a0 Z) : (Jvm.Cond.instanceMethod ({ cls := "java/lang/Object", name := "<init>", desc := "()V" } : Jvm.MethodName)).before a0 Z = true := hw _ (List.mem_of_getElem? (i := 18) rfl)
theorem w19 {a0 : Array Value} {Z : State} (hw : Hw a0 Z) : (Jvm.Cond.code ({ cls := "java/lang/Object", name := "<init>", desc := "()V" } : Jvm.MethodName) object_method_1_code (1 : Nat) (Option.none : Option Jvm.ClassFile.FieldType)).before a0 Z = true := hw _ (List.mem_of_getElem? (i := 19) rfl)
theorem w20 {a0 : Array Value} {Z : State} (hw : Hw a0 Z) : (Jvm.Cond.stringLink "java/lang/String" (7 : Nat) "").before a0 Z = true := hw _ (List.mem_of_getElem? (i := 20) rfl)
theorem w21 {a0 : Array Value} {Z : State} (hw : Hw a0 Z) : (Jvm.Cond.arrayClass Jvm.ClassFile.FieldType.byte).before a0 Z = true := hw _ (List.mem_of_getElem? (i := 21) rfl)
theorem w22 {a0 : Array Value} {Z : State} (hw : Hw a0 Z) : (Jvm.Cond.laysFinal "java/lang/String" "java/lang/String" "value" "[B").before a0 Z = true := hw _ (List.mem_of_getElem? (i := 22) rfl)
theorem w23 {a0 : Array Value} {Z : State} (hw : Hw a0 Z) : (Jvm.Cond.laysFinal "java/lang/String" "java/lang/String" "coder" "B").before a0 Z = true := hw _ (List.mem_of_getElem? (i := 23) rfl)
theorem w24 {a0 : Array Value} {Z : State} (hw : Hw a0 Z) : (Jvm.Cond.soleField "java/lang/String" "value").before a0 Z = true := hw _ (List.mem_of_getElem? (i := 24) rfl)
theorem w25 {a0 : Array Value} {Z : State} (hw : Hw a0 Z) : (Jvm.Cond.soleField "java/lang/String" "coder").before a0 Z = true := hw _ (List.mem_of_getElem? (i := 25) rfl)
theorem w26 {a0 : Array Value} {Z : State} (hw : Hw a0 Z) : (Jvm.Cond.fieldLink "java/lang/String" (9 : Nat) "java/lang/String" "value" "[B").before a0 Z = true := hw _ (List.mem_of_getElem? (i := 26) rfl)
theorem w27 {a0 : Array Value} {Z : State} (hw : Hw a0 Z) : (Jvm.Cond.fieldLink "java/lang/String" (15 : Nat) "java/lang/String" "coder" "B").before a0 Z = true := hw _ (List.mem_of_getElem? (i := 27) rfl)
theorem w28 {a0 : Array Value} {Z : State} (hw : Hw a0 Z) : (Jvm.Cond.methodLink "com/example/countersign/countersign/request/HeaderIsTokenPinLaw" (27 : Nat) ({ cls := "com/example/countersign/countersign/request/Header", name := "isToken", desc := "(Ljava/lang/String;)Z" } : Jvm.MethodName)).before a0 Z = true := hw _ (List.mem_of_getElem? (i := 28) rfl)
theorem w29 {a0 : Array Value} {Z : State} (hw : Hw a0 Z) : (Jvm.Cond.static ({ cls := "com/example/countersign/countersign/request/Header", name := "isToken", desc := "(Ljava/lang/String;)Z" } : Jvm.MethodName)).before a0 Z = true := hw _ (List.mem_of_getElem? (i := 29) rfl)
theorem w30 {a0 : Array Value} {Z : State} (hw : Hw a0 Z) : (Jvm.Cond.initialized "com/example/countersign/countersign/request/Header").before a0 Z = true := hw _ (List.mem_of_getElem? (i := 30) rfl)
theorem w31 {a0 : Array Value} {Z : State} (hw : Hw a0 Z) : (Jvm.Cond.code ({ cls := "com/example/countersign/countersign/request/Header", name := "isToken", desc := "(Ljava/lang/String;)Z" } : Jvm.MethodName) prog_28_method_5_code (4 : Nat) (Option.some Jvm.ClassFile.FieldType.boolean)).before a0 Z = true := hw _ (List.mem_of_getElem? (i := 31) rfl)
theorem w32 {a0 : Array Value} {Z : State} (hw : Hw a0 Z) : (Jvm.Cond.methodLink "com/example/countersign/countersign/request/Header" (66 : Nat) ({ cls := "java/lang/String", name := "isEmpty", desc := "()Z" } : Jvm.MethodName)).before a0 Z = true := hw _ (List.mem_of_getElem? (i := 32) rfl)
theorem w33 {a0 : Array Value} {Z : State} (hw : Hw a0 Z) : (Jvm.Cond.declares ({ cls := "java/lang/String", name := "isEmpty", desc := "()Z" } : Jvm.MethodName)).before a0 Z = true := hw _ (List.mem_of_getElem? (i := 33) rfl)
theorem w34 {a0 : Array Value} {Z : State} (hw : Hw a0 Z) : (Jvm.Cond.instanceMethod ({ cls := "java/lang/String", name := "isEmpty", desc := "()Z" } : Jvm.MethodName)).before a0 Z = true := hw _ (List.mem_of_getElem? (i := 34) rfl)
theorem w35 {a0 : Array Value} {Z : State} (hw : Hw a0 Z) : (Jvm.Cond.selects "java/lang/String" ({ cls := "java/lang/String", name := "isEmpty", desc := "()Z" } : Jvm.MethodName) ({ cls := "java/lang/String", name := "isEmpty", desc := "()Z" } : Jvm.MethodName)).before a0 Z = true := hw _ (List.mem_of_getElem? (i := 35) rfl)
theorem w36 {a0 : Array Value} {Z : State} (hw : Hw a0 Z) : (Jvm.Cond.code ({ cls := "java/lang/String", name := "isEmpty", desc := "()Z" } : Jvm.MethodName) jdk_42_method_55_code (1 : Nat) (Option.some Jvm.ClassFile.FieldType.boolean)).before a0 Z = true := hw _ (List.mem_of_getElem? (i := 36) rfl)
theorem w37 {a0 : Array Value} {Z : State} (hw : Hw a0 Z) : (Jvm.Cond.fieldLink "java/lang/String" (38 : Nat) "java/lang/String" "COMPACT_STRINGS" "Z").before a0 Z = true := hw _ (List.mem_of_getElem? (i := 37) rfl)
theorem w38 {a0 : Array Value} {Z : State} (hw : Hw a0 Z) : (Jvm.Cond.methodLink "java/lang/String" (177 : Nat) ({ cls := "java/lang/StringUTF16", name := "compress", desc := "([CII)[B" } : Jvm.MethodName)).before a0 Z = true := hw _ (List.mem_of_getElem? (i := 38) rfl)
theorem w39 {a0 : Array Value} {Z : State} (hw : Hw a0 Z) : (Jvm.Cond.static ({ cls := "java/lang/StringUTF16", name := "compress", desc := "([CII)[B" } : Jvm.MethodName)).before a0 Z = true := hw _ (List.mem_of_getElem? (i := 39) rfl)
theorem w40 {a0 : Array Value} {Z : State} (hw : Hw a0 Z) : (Jvm.Cond.initialized "java/lang/StringUTF16").before a0 Z = true := hw _ (List.mem_of_getElem? (i := 40) rfl)
theorem w41 {a0 : Array Value} {Z : State} (hw : Hw a0 Z) : (Jvm.Cond.code ({ cls := "java/lang/StringUTF16", name := "compress", desc := "([CII)[B" } : Jvm.MethodName) jdk_52_method_16_code (6 : Nat) (Option.some (Jvm.ClassFile.FieldType.array Jvm.ClassFile.FieldType.byte))).before a0 Z = true := hw _ (List.mem_of_getElem? (i := 41) rfl)
theorem w42 {a0 : Array Value} {Z : State} (hw : Hw a0 Z) : (Jvm.Cond.methodLink "java/lang/StringUTF16" (115 : Nat) ({ cls := "java/lang/StringUTF16", name := "compress", desc := "([CI[BII)I" } : Jvm.MethodName)).before a0 Z = true := hw _ (List.mem_of_getElem? (i := 42) rfl)
theorem w43 {a0 : Array Value} {Z : State} (hw : Hw a0 Z) : (Jvm.Cond.static ({ cls := "java/lang/StringUTF16", name := "compress", desc := "([CI[BII)I" } : Jvm.MethodName)).before a0 Z = true := hw _ (List.mem_of_getElem? (i := 43) rfl)
theorem w44 {a0 : Array Value} {Z : State} (hw : Hw a0 Z) : (Jvm.Cond.code ({ cls := "java/lang/StringUTF16", name := "compress", desc := "([CI[BII)I" } : Jvm.MethodName) jdk_52_method_21_code (7 : Nat) (Option.some Jvm.ClassFile.FieldType.int)).before a0 Z = true := hw _ (List.mem_of_getElem? (i := 44) rfl)
theorem w45 {a0 : Array Value} {Z : State} (hw : Hw a0 Z) : (Jvm.Cond.methodLink "java/lang/String" (47 : Nat) ({ cls := "java/lang/StringUTF16", name := "coderFromArrayLen", desc := "([BI)B" } : Jvm.MethodName)).before a0 Z = true := hw _ (List.mem_of_getElem? (i := 45) rfl)
theorem w46 {a0 : Array Value} {Z : State} (hw : Hw a0 Z) : (Jvm.Cond.static ({ cls := "java/lang/StringUTF16", name := "coderFromArrayLen", desc := "([BI)B" } : Jvm.MethodName)).before a0 Z = true := hw _ (List.mem_of_getElem? (i := 46) rfl)
theorem w47 {a0 : Array Value} {Z : State} (hw : Hw a0 Z) : (Jvm.Cond.code ({ cls := "java/lang/StringUTF16", name := "coderFromArrayLen", desc := "([BI)B" } : Jvm.MethodName) jdk_52_method_15_code (2 : Nat) (Option.some Jvm.ClassFile.FieldType.byte)).before a0 Z = true := hw _ (List.mem_of_getElem? (i := 47) rfl)
theorem w48 {a0 : Array Value} {Z : State} (hw : Hw a0 Z) : (Jvm.Cond.methodLink "com/example/countersign/countersign/request/HeaderIsTokenPinLaw" (24 : Nat) ({ cls := "com/example/countersign/countersign/request/HeaderIsTokenPinLaw", name := "tchar", desc := "(I)Z" } : Jvm.MethodName)).before a0 Z = true := hw _ (List.mem_of_getElem? (i := 48) rfl)
theorem w49 {a0 : Array Value} {Z : State} (hw : Hw a0 Z) : (Jvm.Cond.static ({ cls := "com/example/countersign/countersign/request/HeaderIsTokenPinLaw", name := "tchar", desc := "(I)Z" } : Jvm.MethodName)).before a0 Z = true := hw _ (List.mem_of_getElem? (i := 49) rfl)
theorem w50 {a0 : Array Value} {Z : State} (hw : Hw a0 Z) : (Jvm.Cond.code ({ cls := "com/example/countersign/countersign/request/HeaderIsTokenPinLaw", name := "tchar", desc := "(I)Z" } : Jvm.MethodName) method_3_code (1 : Nat) (Option.some Jvm.ClassFile.FieldType.boolean)).before a0 Z = true := hw _ (List.mem_of_getElem? (i := 50) rfl)
theorem w51 {a0 : Array Value} {Z : State} (hw : Hw a0 Z) : (Jvm.Cond.methodLink "com/example/countersign/countersign/request/Header" (70 : Nat) ({ cls := "java/lang/String", name := "length", desc := "()I" } : Jvm.MethodName)).before a0 Z = true := hw _ (List.mem_of_getElem? (i := 51) rfl)
theorem w52 {a0 : Array Value} {Z : State} (hw : Hw a0 Z) : (Jvm.Cond.declares ({ cls := "java/lang/String", name := "length", desc := "()I" } : Jvm.MethodName)).before a0 Z = true := hw _ (List.mem_of_getElem? (i := 52) rfl)
theorem w53 {a0 : Array Value} {Z : State} (hw : Hw a0 Z) : (Jvm.Cond.instanceMethod ({ cls := "java/lang/String", name := "length", desc := "()I" } : Jvm.MethodName)).before a0 Z = true := hw _ (List.mem_of_getElem? (i := 53) rfl)
theorem w54 {a0 : Array Value} {Z : State} (hw : Hw a0 Z) : (Jvm.Cond.selects "java/lang/String" ({ cls := "java/lang/String", name := "length", desc := "()I" } : Jvm.MethodName) ({ cls := "java/lang/String", name := "length", desc := "()I" } : Jvm.MethodName)).before a0 Z = true := hw _ (List.mem_of_getElem? (i := 54) rfl)
theorem w55 {a0 : Array Value} {Z : State} (hw : Hw a0 Z) : (Jvm.Cond.code ({ cls := "java/lang/String", name := "length", desc := "()I" } : Jvm.MethodName) jdk_42_method_54_code (1 : Nat) (Option.some Jvm.ClassFile.FieldType.int)).before a0 Z = true := hw _ (List.mem_of_getElem? (i := 55) rfl)
theorem w56 {a0 : Array Value} {Z : State} (hw : Hw a0 Z) : (Jvm.Cond.methodLink "java/lang/String" (335 : Nat) ({ cls := "java/lang/String", name := "coder", desc := "()B" } : Jvm.MethodName)).before a0 Z = true := hw _ (List.mem_of_getElem? (i := 56) rfl)
theorem w57 {a0 : Array Value} {Z : State} (hw : Hw a0 Z) : (Jvm.Cond.declares ({ cls := "java/lang/String", name := "coder", desc := "()B" } : Jvm.MethodName)).before a0 Z = true := hw _ (List.mem_of_getElem? (i := 57) rfl)
theorem w58 {a0 : Array Value} {Z : State} (hw : Hw a0 Z) : (Jvm.Cond.instanceMethod ({ cls := "java/lang/String", name := "coder", desc := "()B" } : Jvm.MethodName)).before a0 Z = true := hw _ (List.mem_of_getElem? (i := 58) rfl)
theorem w59 {a0 : Array Value} {Z : State} (hw : Hw a0 Z) : (Jvm.Cond.selects "java/lang/String" ({ cls := "java/lang/String", name := "coder", desc := "()B" } : Jvm.MethodName) ({ cls := "java/lang/String", name := "coder", desc := "()B" } : Jvm.MethodName)).before a0 Z = true := hw _ (List.mem_of_getElem? (i := 59) rfl)
theorem w60 {a0 : Array Value} {Z : State} (hw : Hw a0 Z) : (Jvm.Cond.code ({ cls := "java/lang/String", name := "coder", desc := "()B" } : Jvm.MethodName) jdk_42_method_152_code (1 : Nat) (Option.some Jvm.ClassFile.FieldType.byte)).before a0 Z = true := hw _ (List.mem_of_getElem? (i := 60) rfl)
theorem w61 {a0 : Array Value} {Z : State} (hw : Hw a0 Z) : (Jvm.Cond.methodLink "com/example/countersign/countersign/request/Header" (74 : Nat) ({ cls := "java/lang/String", name := "charAt", desc := "(I)C" } : Jvm.MethodName)).before a0 Z = true := hw _ (List.mem_of_getElem? (i := 61) rfl)
theorem w62 {a0 : Array Value} {Z : State} (hw : Hw a0 Z) : (Jvm.Cond.declares ({ cls := "java/lang/String", name := "charAt", desc := "(I)C" } : Jvm.MethodName)).before a0 Z = true := hw _ (List.mem_of_getElem? (i := 62) rfl)
theorem w63 {a0 : Array Value} {Z : State} (hw : Hw a0 Z) : (Jvm.Cond.instanceMethod ({ cls := "java/lang/String", name := "charAt", desc := "(I)C" } : Jvm.MethodName)).before a0 Z = true := hw _ (List.mem_of_getElem? (i := 63) rfl)
theorem w64 {a0 : Array Value} {Z : State} (hw : Hw a0 Z) : (Jvm.Cond.selects "java/lang/String" ({ cls := "java/lang/String", name := "charAt", desc := "(I)C" } : Jvm.MethodName) ({ cls := "java/lang/String", name := "charAt", desc := "(I)C" } : Jvm.MethodName)).before a0 Z = true := hw _ (List.mem_of_getElem? (i := 64) rfl)
theorem w65 {a0 : Array Value} {Z : State} (hw : Hw a0 Z) : (Jvm.Cond.code ({ cls := "java/lang/String", name := "charAt", desc := "(I)C" } : Jvm.MethodName) jdk_42_method_56_code (2 : Nat) (Option.some Jvm.ClassFile.FieldType.char)).before a0 Z = true := hw _ (List.mem_of_getElem? (i := 65) rfl)
theorem w66 {a0 : Array Value} {Z : State} (hw : Hw a0 Z) : (Jvm.Cond.methodLink "java/lang/String" (492 : Nat) ({ cls := "java/lang/String", name := "isLatin1", desc := "()Z" } : Jvm.MethodName)).before a0 Z = true := hw _ (List.mem_of_getElem? (i := 66) rfl)
theorem w67 {a0 : Array Value} {Z : State} (hw : Hw a0 Z) : (Jvm.Cond.declares ({ cls := "java/lang/String", name := "isLatin1", desc := "()Z" } : Jvm.MethodName)).before a0 Z = true := hw _ (List.mem_of_getElem? (i := 67) rfl)
theorem w68 {a0 : Array Value} {Z : State} (hw : Hw a0 Z) : (Jvm.Cond.instanceMethod ({ cls := "java/lang/String", name := "isLatin1", desc := "()Z" } : Jvm.MethodName)).before a0 Z = true := hw _ (List.mem_of_getElem? (i := 68) rfl)
theorem w69 {a0 : Array Value} {Z : State} (hw : Hw a0 Z) : (Jvm.Cond.selects "java/lang/String" ({ cls := "java/lang/String", name := "isLatin1", desc := "()Z" } : Jvm.MethodName) ({ cls := "java/lang/String", name := "isLatin1", desc := "()Z" } : Jvm.MethodName)).before a0 Z = true := hw _ (List.mem_of_getElem? (i := 69) rfl)
theorem w70 {a0 : Array Value} {Z : State} (hw : Hw a0 Z) : (Jvm.Cond.code ({ cls := "java/lang/String", name := "isLatin1", desc := "()Z" } : Jvm.MethodName) jdk_42_method_154_code (1 : Nat) (Option.some Jvm.ClassFile.FieldType.boolean)).before a0 Z = true := hw _ (List.mem_of_getElem? (i := 70) rfl)
theorem w71 {a0 : Array Value} {Z : State} (hw : Hw a0 Z) : (Jvm.Cond.methodLink "java/lang/String" (495 : Nat) ({ cls := "java/lang/StringLatin1", name := "charAt", desc := "([BI)C" } : Jvm.MethodName)).before a0 Z = true := hw _ (List.mem_of_getElem? (i := 71) rfl)
theorem w72 {a0 : Array Value} {Z : State} (hw : Hw a0 Z) : (Jvm.Cond.static ({ cls := "java/lang/StringLatin1", name := "charAt", desc := "([BI)C" } : Jvm.MethodName)).before a0 Z = true := hw _ (List.mem_of_getElem? (i := 72) rfl)
theorem w73 {a0 : Array Value} {Z : State} (hw : Hw a0 Z) : (Jvm.Cond.initialized "java/lang/StringLatin1").before a0 Z = true := hw _ (List.mem_of_getElem? (i := 73) rfl)
theorem w74 {a0 : Array Value} {Z : State} (hw : Hw a0 Z) : (Jvm.Cond.code ({ cls := "java/lang/StringLatin1", name := "charAt", desc := "([BI)C" } : Jvm.MethodName) jdk_43_method_2_code (2 : Nat) (Option.some Jvm.ClassFile.FieldType.char)).before a0 Z = true := hw _ (List.mem_of_getElem? (i := 74) rfl)
theorem w75 {a0 : Array Value} {Z : State} (hw : Hw a0 Z) : (Jvm.Cond.methodLink "java/lang/StringLatin1" (9 : Nat) ({ cls := "java/lang/String", name := "checkIndex", desc := "(II)V" } : Jvm.MethodName)).before a0 Z = true := hw _ (List.mem_of_getElem? (i := 75) rfl)
theorem w76 {a0 : Array Value} {Z : State} (hw : Hw a0 Z) : (Jvm.Cond.static ({ cls := "java/lang/String", name := "checkIndex", desc := "(II)V" } : Jvm.MethodName)).before a0 Z = true := hw _ (List.mem_of_getElem? (i := 76) rfl)
theorem w77 {a0 : Array Value} {Z : State} (hw : Hw a0 Z) : (Jvm.Cond.code ({ cls := "java/lang/String", name := "checkIndex", desc := "(II)V" } : Jvm.MethodName) jdk_42_method_155_code (2 : Nat) (Option.none : Option Jvm.ClassFile.FieldType)).before a0 Z = true := hw _ (List.mem_of_getElem? (i := 77) rfl)
theorem w78 {a0 : Array Value} {Z : State} (hw : Hw a0 Z) : (Jvm.Cond.fieldLink "java/lang/String" (1053 : Nat) "jdk/internal/util/Preconditions" "SIOOBE_FORMATTER" "Ljava/util/function/BiFunction;").before a0 Z = true := hw _ (List.mem_of_getElem? (i := 78) rfl)
theorem w79 {a0 : Array Value} {Z : State} (hw : Hw a0 Z) : (Jvm.Cond.initialized "jdk/internal/util/Preconditions").before a0 Z = true := hw _ (List.mem_of_getElem? (i := 79) rfl)
theorem w80 {a0 : Array Value} {Z : State} (hw : Hw a0 Z) : (Jvm.Cond.methodLink "java/lang/String" (1059 : Nat) ({ cls := "jdk/internal/util/Preconditions", name := "checkIndex", desc := "(IILjava/util/function/BiFunction;)I" } : Jvm.MethodName)).before a0 Z = true := hw _ (List.mem_of_getElem? (i := 80) rfl)
theorem w81 {a0 : Array Value} {Z : State} (hw : Hw a0 Z) : (Jvm.Cond.static ({ cls := "jdk/internal/util/Preconditions", name := "checkIndex", desc := "(IILjava/util/function/BiFunction;)I" } : Jvm.MethodName)).before a0 Z = true := hw _ (List.mem_of_getElem? (i := 81) rfl)
theorem w82 {a0 : Array Value} {Z : State} (hw : Hw a0 Z) : (Jvm.Cond.code ({ cls := "jdk/internal/util/Preconditions", name := "checkIndex", desc := "(IILjava/util/function/BiFunction;)I" } : Jvm.MethodName) jdk_41_method_11_code (3 : Nat) (Option.some Jvm.ClassFile.FieldType.int)).before a0 Z = true := hw _ (List.mem_of_getElem? (i := 82) rfl)
theorem w83 {a0 : Array Value} {Z : State} (hw : Hw a0 Z) : (Jvm.Cond.stringLink "com/example/countersign/countersign/request/Header" (78 : Nat) "!#$%&'*+-.^_`|~").before a0 Z = true := hw _ (List.mem_of_getElem? (i := 83) rfl)
theorem w84 {a0 : Array Value} {Z : State} (hw : Hw a0 Z) : (Jvm.Cond.methodLink "com/example/countersign/countersign/request/Header" (41 : Nat) ({ cls := "java/lang/String", name := "indexOf", desc := "(I)I" } : Jvm.MethodName)).before a0 Z = true := hw _ (List.mem_of_getElem? (i := 84) rfl)
theorem w85 {a0 : Array Value} {Z : State} (hw : Hw a0 Z) : (Jvm.Cond.declares ({ cls := "java/lang/String", name := "indexOf", desc := "(I)I" } : Jvm.MethodName)).before a0 Z = true := hw _ (List.mem_of_getElem? (i := 85) rfl)
theorem w86 {a0 : Array Value} {Z : State} (hw : Hw a0 Z) : (Jvm.Cond.instanceMethod ({ cls := "java/lang/String", name := "indexOf", desc := "(I)I" } : Jvm.MethodName)).before a0 Z = true := hw _ (List.mem_of_getElem? (i := 86) rfl)
theorem w87 {a0 : Array Value} {Z : State} (hw : Hw a0 Z) : (Jvm.Cond.selects "java/lang/String" ({ cls := "java/lang/String", name := "indexOf", desc := "(I)I" } : Jvm.MethodName) ({ cls := "java/lang/String", name := "indexOf", desc := "(I)I" } : Jvm.MethodName)).before a0 Z = true := hw _ (List.mem_of_getElem? (i := 87) rfl)
theorem w88 {a0 : Array Value} {Z : State} (hw : Hw a0 Z) : (Jvm.Cond.code ({ cls := "java/lang/String", name := "indexOf", desc := "(I)I" } : Jvm.MethodName) jdk_42_method_79_code (2 : Nat) (Option.some Jvm.ClassFile.FieldType.int)).before a0 Z = true := hw _ (List.mem_of_getElem? (i := 88) rfl)
theorem w89 {a0 : Array Value} {Z : State} (hw : Hw a0 Z) : (Jvm.Cond.methodLink "java/lang/String" (633 : Nat) ({ cls := "java/lang/String", name := "indexOf", desc := "(II)I" } : Jvm.MethodName)).before a0 Z = true := hw _ (List.mem_of_getElem? (i := 89) rfl)
theorem w90 {a0 : Array Value} {Z : State} (hw : Hw a0 Z) : (Jvm.Cond.declares ({ cls := "java/lang/String", name := "indexOf", desc := "(II)I" } : Jvm.MethodName)).before a0 Z = true := hw _ (List.mem_of_getElem? (i := 90) rfl)
theorem w91 {a0 : Array Value} {Z : State} (hw : Hw a0 Z) : (Jvm.Cond.instanceMethod ({ cls := "java/lang/String", name := "indexOf", desc := "(II)I" } : Jvm.MethodName)).before a0 Z = true := hw _ (List.mem_of_getElem? (i := 91) rfl)
theorem w92 {a0 : Array Value} {Z : State} (hw : Hw a0 Z) : (Jvm.Cond.selects "java/lang/String" ({ cls := "java/lang/String", name := "indexOf", desc := "(II)I" } : Jvm.MethodName) ({ cls := "java/lang/String", name := "indexOf", desc := "(II)I" } : Jvm.MethodName)).before a0 Z = true := hw _ (List.mem_of_getElem? (i := 92) rfl)
theorem w93 {a0 : Array Value} {Z : State} (hw : Hw a0 Z) : (Jvm.Cond.code ({ cls := "java/lang/String", name := "indexOf", desc := "(II)I" } : Jvm.MethodName) jdk_42_method_80_code (3 : Nat) (Option.some Jvm.ClassFile.FieldType.int)).before a0 Z = true := hw _ (List.mem_of_getElem? (i := 93) rfl)
theorem w94 {a0 : Array Value} {Z : State} (hw : Hw a0 Z) : (Jvm.Cond.methodLink "java/lang/String" (505 : Nat) ({ cls := "java/lang/String", name := "length", desc := "()I" } : Jvm.MethodName)).before a0 Z = true := hw _ (List.mem_of_getElem? (i := 94) rfl)
theorem w95 {a0 : Array Value} {Z : State} (hw : Hw a0 Z) : (Jvm.Cond.methodLink "java/lang/String" (637 : Nat) ({ cls := "java/lang/StringLatin1", name := "indexOf", desc := "([BIII)I" } : Jvm.MethodName)).before a0 Z = true := hw _ (List.mem_of_getElem? (i := 95) rfl)
theorem w96 {a0 : Array Value} {Z : State} (hw : Hw a0 Z) : (Jvm.Cond.static ({ cls := "java/lang/StringLatin1", name := "indexOf", desc := "([BIII)I" } : Jvm.MethodName)).before a0 Z = true := hw _ (List.mem_of_getElem? (i := 96) rfl)
theorem w97 {a0 : Array Value} {Z : State} (hw : Hw a0 Z) : (Jvm.Cond.code ({ cls := "java/lang/StringLatin1", name := "indexOf", desc := "([BIII)I" } : Jvm.MethodName) jdk_43_method_22_code (4 : Nat) (Option.some Jvm.ClassFile.FieldType.int)).before a0 Z = true := hw _ (List.mem_of_getElem? (i := 97) rfl)
theorem w98 {a0 : Array Value} {Z : State} (hw : Hw a0 Z) : (Jvm.Cond.methodLink "java/lang/StringLatin1" (88 : Nat) ({ cls := "java/lang/StringLatin1", name := "canEncode", desc := "(I)Z" } : Jvm.MethodName)).before a0 Z = true := hw _ (List.mem_of_getElem? (i := 98) rfl)
theorem w99 {a0 : Array Value} {Z : State} (hw : Hw a0 Z) : (Jvm.Cond.static ({ cls := "java/lang/StringLatin1", name := "canEncode", desc := "(I)Z" } : Jvm.MethodName)).before a0 Z = true := hw _ (List.mem_of_getElem? (i := 99) rfl)
theorem w100 {a0 : Array Value} {Z : State} (hw : Hw a0 Z) : (Jvm.Cond.code ({ cls := "java/lang/StringLatin1", name := "canEncode", desc := "(I)Z" } : Jvm.MethodName) jdk_43_method_4_code (1 : Nat) (Option.some Jvm.ClassFile.FieldType.boolean)).before a0 Z = true := hw _ (List.mem_of_getElem? (i := 100) rfl)
theorem w101 {a0 : Array Value} {Z : State} (hw : Hw a0 Z) : (Jvm.Cond.methodLink "java/lang/StringLatin1" (92 : Nat) ({ cls := "java/lang/Math", name := "max", desc := "(II)I" } : Jvm.MethodName)).before a0 Z = true := hw _ (List.mem_of_getElem? (i := 101) rfl)
theorem w102 {a0 : Array Value} {Z : State} (hw : Hw a0 Z) : (Jvm.Cond.static ({ cls := "java/lang/Math", name := "max", desc := "(II)I" } : Jvm.MethodName)).before a0 Z = true := hw _ (List.mem_of_getElem? (i := 102) rfl)
theorem w103 {a0 : Array Value} {Z : State} (hw : Hw a0 Z) : (Jvm.Cond.initialized "java/lang/Math").before a0 Z = true := hw _ (List.mem_of_getElem? (i := 103) rfl)
theorem w104 {a0 : Array Value} {Z : State} (hw : Hw a0 Z) : (Jvm.Cond.code ({ cls := "java/lang/Math", name := "max", desc := "(II)I" } : Jvm.MethodName) jdk_29_method_65_code (2 : Nat) (Option.some Jvm.ClassFile.FieldType.int)).before a0 Z = true := hw _ (List.mem_of_getElem? (i := 104) rfl)
theorem w105 {a0 : Array Value} {Z : State} (hw : Hw a0 Z) : (Jvm.Cond.methodLink "java/lang/StringLatin1" (38 : Nat) ({ cls := "java/lang/Math", name := "min", desc := "(II)I" } : Jvm.MethodName)).before a0 Z = true := hw _ (List.mem_of_getElem? (i := 105) rfl)
theorem w106 {a0 : Array Value} {Z : State} (hw : Hw a0 Z) : (Jvm.Cond.static ({ cls := "java/lang/Math", name := "min", desc := "(II)I" } : Jvm.MethodName)).before a0 Z = true := hw _ (List.mem_of_getElem? (i := 106) rfl)
theorem w107 {a0 : Array Value} {Z : State} (hw : Hw a0 Z) : (Jvm.Cond.code ({ cls := "java/lang/Math", name := "min", desc := "(II)I" } : Jvm.MethodName) jdk_29_method_69_code (2 : Nat) (Option.some Jvm.ClassFile.FieldType.int)).before a0 Z = true := hw _ (List.mem_of_getElem? (i := 107) rfl)
theorem w108 {a0 : Array Value} {Z : State} (hw : Hw a0 Z) : (Jvm.Cond.methodLink "java/lang/StringLatin1" (95 : Nat) ({ cls := "java/lang/StringLatin1", name := "indexOfChar", desc := "([BIII)I" } : Jvm.MethodName)).before a0 Z = true := hw _ (List.mem_of_getElem? (i := 108) rfl)
theorem w109 {a0 : Array Value} {Z : State} (hw : Hw a0 Z) : (Jvm.Cond.static ({ cls := "java/lang/StringLatin1", name := "indexOfChar", desc := "([BIII)I" } : Jvm.MethodName)).before a0 Z = true := hw _ (List.mem_of_getElem? (i := 109) rfl)
theorem w110 {a0 : Array Value} {Z : State} (hw : Hw a0 Z) : (Jvm.Cond.code ({ cls := "java/lang/StringLatin1", name := "indexOfChar", desc := "([BIII)I" } : Jvm.MethodName) jdk_43_method_23_code (6 : Nat) (Option.some Jvm.ClassFile.FieldType.int)).before a0 Z = true := hw _ (List.mem_of_getElem? (i := 110) rfl)
theorem w111 {a0 : Array Value} {Z : State} (hw : Hw a0 Z) : (Jvm.Cond.methodLink "com/example/countersign/countersign/request/HeaderIsTokenPinLaw" (7 : Nat) ({ cls := "com/example/countersign/countersign/request/HeaderIsTokenPinLaw", name := "delimiter", desc := "(I)Z" } : Jvm.MethodName)).before a0 Z = true := hw _ (List.mem_of_getElem? (i := 111) rfl)
theorem w112 {a0 : Array Value} {Z : State} (hw : Hw a0 Z) : (Jvm.Cond.static ({ cls := "com/example/countersign/countersign/request/HeaderIsTokenPinLaw", name := "delimiter", desc := "(I)Z" } : Jvm.MethodName)).before a0 Z = true := hw _ (List.mem_of_getElem? (i := 112) rfl)
theorem w113 {a0 : Array Value} {Z : State} (hw : Hw a0 Z) : (Jvm.Cond.code ({ cls := "com/example/countersign/countersign/request/HeaderIsTokenPinLaw", name := "delimiter", desc := "(I)Z" } : Jvm.MethodName) method_2_code (1 : Nat) (Option.some Jvm.ClassFile.FieldType.boolean)).before a0 Z = true := hw _ (List.mem_of_getElem? (i := 113) rfl)
theorem w114 {a0 : Array Value} {Z : State} (hw : Hw a0 Z) : (Jvm.Cond.methodLink "java/lang/StringUTF16" (119 : Nat) ({ cls := "java/lang/StringUTF16", name := "toBytes", desc := "([CII)[B" } : Jvm.MethodName)).before a0 Z = true := hw _ (List.mem_of_getElem? (i := 114) rfl)
theorem w115 {a0 : Array Value} {Z : State} (hw : Hw a0 Z) : (Jvm.Cond.static ({ cls := "java/lang/StringUTF16", name := "toBytes", desc := "([CII)[B" } : Jvm.MethodName)).before a0 Z = true := hw _ (List.mem_of_getElem? (i := 115) rfl)
theorem w116 {a0 : Array Value} {Z : State} (hw : Hw a0 Z) : (Jvm.Cond.code ({ cls := "java/lang/StringUTF16", name := "toBytes", desc := "([CII)[B" } : Jvm.MethodName) jdk_52_method_14_code (5 : Nat) (Option.some (Jvm.ClassFile.FieldType.array Jvm.ClassFile.FieldType.byte))).before a0 Z = true := hw _ (List.mem_of_getElem? (i := 116) rfl)
theorem w117 {a0 : Array Value} {Z : State} (hw : Hw a0 Z) : (Jvm.Cond.methodLink "java/lang/StringUTF16" (107 : Nat) ({ cls := "java/lang/StringUTF16", name := "newBytesFor", desc := "(I)[B" } : Jvm.MethodName)).before a0 Z = true := hw _ (List.mem_of_getElem? (i := 117) rfl)
theorem w118 {a0 : Array Value} {Z : State} (hw : Hw a0 Z) : (Jvm.Cond.static ({ cls := "java/lang/StringUTF16", name := "newBytesFor", desc := "(I)[B" } : Jvm.MethodName)).before a0 Z = true := hw _ (List.mem_of_getElem? (i := 118) rfl)
theorem w119 {a0 : Array Value} {Z : State} (hw : Hw a0 Z) : (Jvm.Cond.code ({ cls := "java/lang/StringUTF16", name := "newBytesFor", desc := "(I)[B" } : Jvm.MethodName) jdk_52_method_2_code (1 : Nat) (Option.some (Jvm.ClassFile.FieldType.array Jvm.ClassFile.FieldType.byte))).before a0 Z = true := hw _ (List.mem_of_getElem? (i := 119) rfl)
theorem w120 {a0 : Array Value} {Z : State} (hw : Hw a0 Z) : (Jvm.Cond.methodLink "java/lang/StringUTF16" (11 : Nat) ({ cls := "java/lang/StringUTF16", name := "newBytesLength", desc := "(I)I" } : Jvm.MethodName)).before a0 Z = true := hw _ (List.mem_of_getElem? (i := 120) rfl)
theorem w121 {a0 : Array Value} {Z : State} (hw : Hw a0 Z) : (Jvm.Cond.static ({ cls := "java/lang/StringUTF16", name := "newBytesLength", desc := "(I)I" } : Jvm.MethodName)).before a0 Z = true := hw _ (List.mem_of_getElem? (i := 121) rfl)
theorem w122 {a0 : Array Value} {Z : State} (hw : Hw a0 Z) : (Jvm.Cond.code ({ cls := "java/lang/StringUTF16", name := "newBytesLength", desc := "(I)I" } : Jvm.MethodName) jdk_52_method_3_code (1 : Nat) (Option.some Jvm.ClassFile.FieldType.int)).before a0 Z = true := hw _ (List.mem_of_getElem? (i := 122) rfl)
theorem w123 {a0 : Array Value} {Z : State} (hw : Hw a0 Z) : (Jvm.Cond.constant "java/lang/StringUTF16" (20 : Nat) (1073741823 : Int32)).before a0 Z = true := hw _ (List.mem_of_getElem? (i := 123) rfl)
theorem w124 {a0 : Array Value} {Z : State} (hw : Hw a0 Z) : (Jvm.Cond.methodLink "java/lang/StringUTF16" (111 : Nat) ({ cls := "java/lang/StringUTF16", name := "putChar", desc := "([BII)V" } : Jvm.MethodName)).before a0 Z = true := hw _ (List.mem_of_getElem? (i := 124) rfl)
theorem w125 {a0 : Array Value} {Z : State} (hw : Hw a0 Z) : (Jvm.Cond.static ({ cls := "java/lang/StringUTF16", name := "putChar", desc := "([BII)V" } : Jvm.MethodName)).before a0 Z = true := hw _ (List.mem_of_getElem? (i := 125) rfl)
theorem w126 {a0 : Array Value} {Z : State} (hw : Hw a0 Z) : (Jvm.Cond.code ({ cls := "java/lang/StringUTF16", name := "putChar", desc := "([BII)V" } : Jvm.MethodName) jdk_52_method_4_code (3 : Nat) (Option.none : Option Jvm.ClassFile.FieldType)).before a0 Z = true := hw _ (List.mem_of_getElem? (i := 126) rfl)
theorem w127 {a0 : Array Value} {Z : State} (hw : Hw a0 Z) : (Jvm.Cond.fieldLink "java/lang/StringUTF16" (44 : Nat) "java/lang/StringUTF16" "$assertionsDisabled" "Z").before a0 Z = true := hw _ (List.mem_of_getElem? (i := 127) rfl)
theorem w128 {a0 : Array Value} {Z : State} (hw : Hw a0 Z) : (Jvm.Cond.fieldLink "java/lang/StringUTF16" (59 : Nat) "java/lang/StringUTF16" "HI_BYTE_SHIFT" "I").before a0 Z = true := hw _ (List.mem_of_getElem? (i := 128) rfl)
theorem w129 {a0 : Array Value} {Z : State} (hw : Hw a0 Z) : (Jvm.Cond.fieldLink "java/lang/StringUTF16" (63 : Nat) "java/lang/StringUTF16" "LO_BYTE_SHIFT" "I").before a0 Z = true := hw _ (List.mem_of_getElem? (i := 129) rfl)
theorem w130 {a0 : Array Value} {Z : State} (hw : Hw a0 Z) : (Jvm.Cond.methodLink "java/lang/StringUTF16" (71 : Nat) ({ cls := "java/lang/StringUTF16", name := "getChar", desc := "([BI)C" } : Jvm.MethodName)).before a0 Z = true := hw _ (List.mem_of_getElem? (i := 130) rfl)
theorem w131 {a0 : Array Value} {Z : State} (hw : Hw a0 Z) : (Jvm.Cond.static ({ cls := "java/lang/StringUTF16", name := "getChar", desc := "([BI)C" } : Jvm.MethodName)).before a0 Z = true := hw _ (List.mem_of_getElem? (i := 131) rfl)
theorem w132 {a0 : Array Value} {Z : State} (hw : Hw a0 Z) : (Jvm.Cond.code ({ cls := "java/lang/StringUTF16", name := "getChar", desc := "([BI)C" } : Jvm.MethodName) jdk_52_method_5_code (2 : Nat) (Option.some Jvm.ClassFile.FieldType.char)).before a0 Z = true := hw _ (List.mem_of_getElem? (i := 132) rfl)
theorem w133 {a0 : Array Value} {Z : State} (hw : Hw a0 Z) : (Jvm.Cond.methodLink "java/lang/String" (498 : Nat) ({ cls := "java/lang/StringUTF16", name := "charAt", desc := "([BI)C" } : Jvm.MethodName)).before a0 Z = true := hw _ (List.mem_of_getElem? (i := 133) rfl)
theorem w134 {a0 : Array Value} {Z : State} (hw : Hw a0 Z) : (Jvm.Cond.static ({ cls := "java/lang/StringUTF16", name := "charAt", desc := "([BI)C" } : Jvm.MethodName)).before a0 Z = true := hw _ (List.mem_of_getElem? (i := 134) rfl)
theorem w135 {a0 : Array Value} {Z : State} (hw : Hw a0 Z) : (Jvm.Cond.code ({ cls := "java/lang/StringUTF16", name := "charAt", desc := "([BI)C" } : Jvm.MethodName) jdk_52_method_83_code (2 : Nat) (Option.some Jvm.ClassFile.FieldType.char)).before a0 Z = true := hw _ (List.mem_of_getElem? (i := 135) rfl)
theorem w136 {a0 : Array Value} {Z : State} (hw : Hw a0 Z) : (Jvm.Cond.methodLink "java/lang/StringUTF16" (67 : Nat) ({ cls := "java/lang/StringUTF16", name := "checkIndex", desc := "(I[B)V" } : Jvm.MethodName)).before a0 Z = true := hw _ (List.mem_of_getElem? (i := 136) rfl)
theorem w137 {a0 : Array Value} {Z : State} (hw : Hw a0 Z) : (Jvm.Cond.static ({ cls := "java/lang/StringUTF16", name := "checkIndex", desc := "(I[B)V" } : Jvm.MethodName)).before a0 Z = true := hw _ (List.mem_of_getElem? (i := 137) rfl)
theorem w138 {a0 : Array Value} {Z : State} (hw : Hw a0 Z) : (Jvm.Cond.code ({ cls := "java/lang/StringUTF16", name := "checkIndex", desc := "(I[B)V" } : Jvm.MethodName) jdk_52_method_91_code (2 : Nat) (Option.none : Option Jvm.ClassFile.FieldType)).before a0 Z = true := hw _ (List.mem_of_getElem? (i := 138) rfl)
theorem w139 {a0 : Array Value} {Z : State} (hw : Hw a0 Z) : (Jvm.Cond.methodLink "java/lang/StringUTF16" (48 : Nat) ({ cls := "java/lang/StringUTF16", name := "length", desc := "([B)I" } : Jvm.MethodName)).before a0 Z = true := hw _ (List.mem_of_getElem? (i := 139) rfl)
theorem w140 {a0 : Array Value} {Z : State} (hw : Hw a0 Z) : (Jvm.Cond.static ({ cls := "java/lang/StringUTF16", name := "length", desc := "([B)I" } : Jvm.MethodName)).before a0 Z = true := hw _ (List.mem_of_getElem? (i := 140) rfl)
theorem w141 {a0 : Array Value} {Z : State} (hw : Hw a0 Z) : (Jvm.Cond.code ({ cls := "java/lang/StringUTF16", name := "length", desc := "([B)I" } : Jvm.MethodName) jdk_52_method_6_code (1 : Nat) (Option.some Jvm.ClassFile.FieldType.int)).before a0 Z = true := hw _ (List.mem_of_getElem? (i := 141) rfl)
theorem w142 {a0 : Array Value} {Z : State} (hw : Hw a0 Z) : (Jvm.Cond.methodLink "java/lang/StringUTF16" (414 : Nat) ({ cls := "java/lang/String", name := "checkIndex", desc := "(II)V" } : Jvm.MethodName)).before a0 Z = true := hw _ (List.mem_of_getElem? (i := 142) rfl)
theorem e0_25 : decode prog_28_method_5_code 25 = .ok (.iload_n 2, 1) := by decide +kernel
theorem e0_26 : decode prog_28_method_5_code 26 = .ok (.bipush 97, 2) := by decide +kernel
theorem e0_28 : decode prog_28_method_5_code 28 = .ok (.if_icmp .lt 9, 3) := by decide +kernel
theorem e0_37 : decode prog_28_method_5_code 37 = .ok (.iload_n 2, 1) := by decide +kernel
theorem e0_38 : decode prog_28_method_5_code 38 = .ok (.bipush 65, 2) := by decide +kernel
theorem e0_40 : decode prog_28_method_5_code 40 = .ok (.if_icmp .lt 9, 3) := by decide +kernel
theorem e0_49 : decode prog_28_method_5_code 49 = .ok (.iload_n 2, 1) := by decide +kernel
theorem e0_50 : decode prog_28_method_5_code 50 = .ok (.bipush 48, 2) := by decide +kernel
theorem e0_52 : decode prog_28_method_5_code 52 = .ok (.if_icmp .lt 13, 3) := by decide +kernel
theorem e0_55 : decode prog_28_method_5_code 55 = .ok (.iload_n 2, 1) := by decide +kernel
theorem e0_56 : decode prog_28_method_5_code 56 = .ok (.bipush 57, 2) := by decide +kernel
theorem e0_58 : decode prog_28_method_5_code 58 = .ok (.if_icmp .gt 7, 3) := by decide +kernel
theorem e0_61 : decode prog_28_method_5_code 61 = .ok (.iconst 1, 1) := by decide +kernel
theorem e0_62 : decode prog_28_method_5_code 62 = .ok (.goto 4, 3) := by decide +kernel
theorem e0_66 : decode prog_28_method_5_code 66 = .ok (.istore_n 3, 1) := by decide +kernel
theorem e0_67 : decode prog_28_method_5_code 67 = .ok (.iload_n 3, 1) := by decide +kernel
theorem e0_68 : decode prog_28_method_5_code 68 = .ok (.ifCond .ne 14, 3) := by decide +kernel
theorem e0_43 : decode prog_28_method_5_code 43 = .ok (.iload_n 2, 1) := by decide +kernel
theorem e0_44 : decode prog_28_method_5_code 44 = .ok (.bipush 90, 2) := by decide +kernel
theorem e0_46 : decode prog_28_method_5_code 46 = .ok (.if_icmp .le 15, 3) := by decide +kernel
theorem e0_31 : decode prog_28_method_5_code 31 = .ok (.iload_n 2, 1) := by decide +kernel
theorem e0_32 : decode prog_28_method_5_code 32 = .ok (.bipush 122, 2) := by decide +kernel
theorem e0_34 : decode prog_28_method_5_code 34 = .ok (.if_icmp .le 27, 3) := by decide +kernel
theorem e0_65 : decode prog_28_method_5_code 65 = .ok (.iconst 0, 1) := by decide +kernel
theorem e1_0 : decode method_4_code 0 = .ok (.iload_n 0, 1) := by decide +kernel
theorem e1_1 : decode method_4_code 1 = .ok (.ifCond .ne 14, 3) := by decide +kernel
theorem e1_4 : decode method_4_code 4 = .ok (.new 13, 3) := by decide +kernel
theorem e1_7 : decode method_4_code 7 = .ok (.dup, 1) := by decide +kernel
theorem e1_8 : decode method_4_code 8 = .ok (.iconst 0, 1) := by decide +kernel
theorem e1_9 : decode method_4_code 9 = .ok (.newarray .char, 2) := by decide +kernel
theorem e1_11 : decode method_4_code 11 = .ok (.invokespecial 15, 3) := by decide +kernel
theorem e2_0 : decode jdk_42_method_3_code 0 = .ok (.aload_n 0, 1) := by decide +kernel
theorem e2_1 : decode jdk_42_method_3_code 1 = .ok (.aload_n 1, 1) := by decide +kernel
theorem e2_2 : decode jdk_42_method_3_code 2 = .ok (.iconst 0, 1) := by decide +kernel
theorem e2_3 : decode jdk_42_method_3_code 3 = .ok (.aload_n 1, 1) := by decide +kernel
theorem e2_4 : decode jdk_42_method_3_code 4 = .ok (.arraylength, 1) := by decide +kernel
theorem e2_5 : decode jdk_42_method_3_code 5 = .ok (.aconst_null, 1) := by decide +kernel
theorem e2_6 : decode jdk_42_method_3_code 6 = .ok (.invokespecial 27, 3) := by decide +kernel
theorem e3_0 : decode jdk_42_method_149_code 0 = .ok (.aload_n 0, 1) := by decide +kernel
theorem e3_1 : decode jdk_42_method_149_code 1 = .ok (.invokespecial 1, 3) := by decide +kernel
theorem e3_4 : decode jdk_42_method_149_code 4 = .ok (.iload_n 3, 1) := by decide +kernel
theorem e3_5 : decode jdk_42_method_149_code 5 = .ok (.ifCond .ne 22, 3) := by decide +kernel
theorem e3_8 : decode jdk_42_method_149_code 8 = .ok (.aload_n 0, 1) := by decide +kernel
theorem e3_9 : decode jdk_42_method_149_code 9 = .ok (.ldc 7, 2) := by decide +kernel
theorem e3_11 : decode jdk_42_method_149_code 11 = .ok (.getfield 9, 3) := by decide +kernel
theorem e3_14 : decode jdk_42_method_149_code 14 = .ok (.putfield 9, 3) := by decide +kernel
theorem e3_17 : decode jdk_42_method_149_code 17 = .ok (.aload_n 0, 1) := by decide +kernel
theorem e3_18 : decode jdk_42_method_149_code 18 = .ok (.ldc 7, 2) := by decide +kernel
theorem e3_20 : decode jdk_42_method_149_code 20 = .ok (.getfield 15, 3) := by decide +kernel
theorem e3_23 : decode jdk_42_method_149_code 23 = .ok (.putfield 15, 3) := by decide +kernel
theorem e3_26 : decode jdk_42_method_149_code 26 = .ok (.return_, 1) := by decide +kernel
theorem e2_9 : decode jdk_42_method_3_code 9 = .ok (.return_, 1) := by decide +kernel
theorem e1_14 : decode method_4_code 14 = .ok (.areturn, 1) := by decide +kernel
theorem e0_0 : decode prog_28_method_5_code 0 = .ok (.aload_n 0, 1) := by decide +kernel
theorem e0_1 : decode prog_28_method_5_code 1 = .ok (.invokevirtual 66, 3) := by decide +kernel
theorem e4_0 : decode jdk_42_method_55_code 0 = .ok (.aload_n 0, 1) := by decide +kernel
theorem e4_1 : decode jdk_42_method_55_code 1 = .ok (.getfield 9, 3) := by decide +kernel
theorem e4_4 : decode jdk_42_method_55_code 4 = .ok (.arraylength, 1) := by decide +kernel
theorem e4_5 : decode jdk_42_method_55_code 5 = .ok (.ifCond .ne 7, 3) := by decide +kernel
theorem e4_8 : decode jdk_42_method_55_code 8 = .ok (.iconst 1, 1) := by decide +kernel
theorem e4_9 : decode jdk_42_method_55_code 9 = .ok (.goto 4, 3) := by decide +kernel
theorem e4_13 : decode jdk_42_method_55_code 13 = .ok (.ireturn, 1) := by decide +kernel
theorem e0_4 : decode prog_28_method_5_code 4 = .ok (.ifCond .eq 5, 3) := by decide +kernel
theorem e0_7 : decode prog_28_method_5_code 7 = .ok (.iconst 0, 1) := by decide +kernel
theorem e0_8 : decode prog_28_method_5_code 8 = .ok (.ireturn, 1) := by decide +kernel
theorem e1_15 : decode method_4_code 15 = .ok (.iload_n 0, 1) := by decide +kernel
theorem e1_16 : decode method_4_code 16 = .ok (.iconst 1, 1) := by decide +kernel
theorem e1_17 : decode method_4_code 17 = .ok (.if_icmp .ne 23, 3) := by decide +kernel
theorem e1_20 : decode method_4_code 20 = .ok (.iconst 1, 1) := by decide +kernel
theorem e1_21 : decode method_4_code 21 = .ok (.newarray .char, 2) := by decide +kernel
theorem e1_23 : decode method_4_code 23 = .ok (.astore 5, 2) := by decide +kernel
theorem e1_25 : decode method_4_code 25 = .ok (.aload 5, 2) := by decide +kernel
theorem e1_27 : decode method_4_code 27 = .ok (.iconst 0, 1) := by decide +kernel
theorem e1_28 : decode method_4_code 28 = .ok (.iload_n 1, 1) := by decide +kernel
theorem e1_29 : decode method_4_code 29 = .ok (.castore, 1) := by decide +kernel
theorem e1_30 : decode method_4_code 30 = .ok (.new 13, 3) := by decide +kernel
theorem e1_33 : decode method_4_code 33 = .ok (.dup, 1) := by decide +kernel
theorem e1_34 : decode method_4_code 34 = .ok (.aload 5, 2) := by decide +kernel
theorem e1_36 : decode method_4_code 36 = .ok (.invokespecial 15, 3) := by decide +kernel
theorem e3_27 : decode jdk_42_method_149_code 27 = .ok (.getstatic 38, 3) := by decide +kernel
theorem e3_30 : decode jdk_42_method_149_code 30 = .ok (.ifCond .eq 28, 3) := by decide +kernel
theorem e3_33 : decode jdk_42_method_149_code 33 = .ok (.aload_n 1, 1) := by decide +kernel
theorem e3_34 : decode jdk_42_method_149_code 34 = .ok (.iload_n 2, 1) := by decide +kernel
theorem e3_35 : decode jdk_42_method_149_code 35 = .ok (.iload_n 3, 1) := by decide +kernel
theorem e3_36 : decode jdk_42_method_149_code 36 = .ok (.invokestatic 177, 3) := by decide +kernel
theorem e5_0 : decode jdk_52_method_16_code 0 = .ok (.iload_n 2, 1) := by decide +kernel
theorem e5_1 : decode jdk_52_method_16_code 1 = .ok (.newarray .byte, 2) := by decide +kernel
theorem e5_3 : decode jdk_52_method_16_code 3 = .ok (.astore_n 3, 1) := by decide +kernel
theorem e5_4 : decode jdk_52_method_16_code 4 = .ok (.aload_n 0, 1) := by decide +kernel
theorem e5_5 : decode jdk_52_method_16_code 5 = .ok (.iload_n 1, 1) := by decide +kernel
theorem e5_6 : decode jdk_52_method_16_code 6 = .ok (.aload_n 3, 1) := by decide +kernel
theorem e5_7 : decode jdk_52_method_16_code 7 = .ok (.iconst 0, 1) := by decide +kernel
theorem e5_8 : decode jdk_52_method_16_code 8 = .ok (.iload_n 2, 1) := by decide +kernel
theorem e5_9 : decode jdk_52_method_16_code 9 = .ok (.invokestatic 115, 3) := by decide +kernel
theorem e6_0 : decode jdk_52_method_21_code 0 = .ok (.iconst 0, 1) := by decide +kernel
theorem e6_1 : decode jdk_52_method_21_code 1 = .ok (.istore 5, 2) := by decide +kernel
theorem e6_3 : decode jdk_52_method_21_code 3 = .ok (.iload 5, 2) := by decide +kernel
theorem e6_5 : decode jdk_52_method_21_code 5 = .ok (.iload 4, 2) := by decide +kernel
theorem e6_7 : decode jdk_52_method_21_code 7 = .ok (.if_icmp .ge 37, 3) := by decide +kernel
theorem e6_10 : decode jdk_52_method_21_code 10 = .ok (.aload_n 0, 1) := by decide +kernel
theorem e6_11 : decode jdk_52_method_21_code 11 = .ok (.iload_n 1, 1) := by decide +kernel
theorem e6_12 : decode jdk_52_method_21_code 12 = .ok (.caload, 1) := by decide +kernel
theorem e6_13 : decode jdk_52_method_21_code 13 = .ok (.istore 6, 2) := by decide +kernel
theorem e6_15 : decode jdk_52_method_21_code 15 = .ok (.iload 6, 2) := by decide +kernel
theorem e6_17 : decode jdk_52_method_21_code 17 = .ok (.sipush 255, 3) := by decide +kernel
theorem e6_20 : decode jdk_52_method_21_code 20 = .ok (.if_icmp .le 6, 3) := by decide +kernel
theorem e6_23 : decode jdk_52_method_21_code 23 = .ok (.iload 5, 2) := by decide +kernel
theorem e6_25 : decode jdk_52_method_21_code 25 = .ok (.ireturn, 1) := by decide +kernel
theorem e6_26 : decode jdk_52_method_21_code 26 = .ok (.aload_n 2, 1) := by decide +kernel
theorem e6_27 : decode jdk_52_method_21_code 27 = .ok (.iload_n 3, 1) := by decide +kernel
theorem e6_28 : decode jdk_52_method_21_code 28 = .ok (.iload 6, 2) := by decide +kernel
theorem e6_30 : decode jdk_52_method_21_code 30 = .ok (.i2b, 1) := by decide +kernel
theorem e6_31 : decode jdk_52_method_21_code 31 = .ok (.bastore, 1) := by decide +kernel
theorem e6_32 : decode jdk_52_method_21_code 32 = .ok (.iinc 1 1, 3) := by decide +kernel
theorem e6_35 : decode jdk_52_method_21_code 35 = .ok (.iinc 3 1, 3) := by decide +kernel
theorem e6_38 : decode jdk_52_method_21_code 38 = .ok (.iinc 5 1, 3) := by decide +kernel
theorem e6_41 : decode jdk_52_method_21_code 41 = .ok (.goto (-38), 3) := by decide +kernel
theorem e6_44 : decode jdk_52_method_21_code 44 = .ok (.iload 4, 2) := by decide +kernel
theorem e6_46 : decode jdk_52_method_21_code 46 = .ok (.ireturn, 1) := by decide +kernel
theorem e5_12 : decode jdk_52_method_16_code 12 = .ok (.istore 4, 2) := by decide +kernel
theorem e5_14 : decode jdk_52_method_16_code 14 = .ok (.iload 4, 2) := by decide +kernel
theorem e5_16 : decode jdk_52_method_16_code 16 = .ok (.iload_n 2, 1) := by decide +kernel
theorem e5_17 : decode jdk_52_method_16_code 17 = .ok (.if_icmp .eq 40, 3) := by decide +kernel
theorem e5_20 : decode jdk_52_method_16_code 20 = .ok (.aload_n 0, 1) := by decide +kernel
theorem e5_21 : decode jdk_52_method_16_code 21 = .ok (.iload_n 1, 1) := by decide +kernel
theorem e5_22 : decode jdk_52_method_16_code 22 = .ok (.iload_n 2, 1) := by decide +kernel
theorem e5_23 : decode jdk_52_method_16_code 23 = .ok (.invokestatic 119, 3) := by decide +kernel
theorem e7_0 : decode jdk_52_method_14_code 0 = .ok (.iload_n 2, 1) := by decide +kernel
theorem e7_1 : decode jdk_52_method_14_code 1 = .ok (.invokestatic 107, 3) := by decide +kernel
theorem e8_0 : decode jdk_52_method_2_code 0 = .ok (.iload_n 0, 1) := by decide +kernel
theorem e8_1 : decode jdk_52_method_2_code 1 = .ok (.invokestatic 11, 3) := by decide +kernel
theorem e9_0 : decode jdk_52_method_3_code 0 = .ok (.iload_n 0, 1) := by decide +kernel
theorem e9_1 : decode jdk_52_method_3_code 1 = .ok (.ifCond .ge 11, 3) := by decide +kernel
theorem e9_12 : decode jdk_52_method_3_code 12 = .ok (.iload_n 0, 1) := by decide +kernel
theorem e9_13 : decode jdk_52_method_3_code 13 = .ok (.ldc 20, 2) := by decide +kernel
theorem e9_15 : decode jdk_52_method_3_code 15 = .ok (.if_icmp .lt 40, 3) := by decide +kernel
theorem e9_55 : decode jdk_52_method_3_code 55 = .ok (.iload_n 0, 1) := by decide +kernel
theorem e9_56 : decode jdk_52_method_3_code 56 = .ok (.iconst 1, 1) := by decide +kernel
theorem e9_57 : decode jdk_52_method_3_code 57 = .ok (.ishl, 1) := by decide +kernel
theorem e9_58 : decode jdk_52_method_3_code 58 = .ok (.ireturn, 1) := by decide +kernel
theorem e8_4 : decode jdk_52_method_2_code 4 = .ok (.newarray .byte, 2) := by decide +kernel
theorem e8_6 : decode jdk_52_method_2_code 6 = .ok (.areturn, 1) := by decide +kernel
theorem e7_4 : decode jdk_52_method_14_code 4 = .ok (.astore_n 3, 1) := by decide +kernel
theorem e7_5 : decode jdk_52_method_14_code 5 = .ok (.iconst 0, 1) := by decide +kernel
theorem e7_6 : decode jdk_52_method_14_code 6 = .ok (.istore 4, 2) := by decide +kernel
theorem e7_8 : decode jdk_52_method_14_code 8 = .ok (.iload 4, 2) := by decide +kernel
theorem e7_10 : decode jdk_52_method_14_code 10 = .ok (.iload_n 2, 1) := by decide +kernel
theorem e7_11 : decode jdk_52_method_14_code 11 = .ok (.if_icmp .ge 21, 3) := by decide +kernel
theorem e7_14 : decode jdk_52_method_14_code 14 = .ok (.aload_n 3, 1) := by decide +kernel
theorem e7_15 : decode jdk_52_method_14_code 15 = .ok (.iload 4, 2) := by decide +kernel
theorem e7_17 : decode jdk_52_method_14_code 17 = .ok (.aload_n 0, 1) := by decide +kernel
theorem e7_18 : decode jdk_52_method_14_code 18 = .ok (.iload_n 1, 1) := by decide +kernel
theorem e7_19 : decode jdk_52_method_14_code 19 = .ok (.caload, 1) := by decide +kernel
theorem e7_20 : decode jdk_52_method_14_code 20 = .ok (.invokestatic 111, 3) := by decide +kernel
theorem e10_0 : decode jdk_52_method_4_code 0 = .ok (.getstatic 44, 3) := by decide +kernel
theorem e10_3 : decode jdk_52_method_4_code 3 = .ok (.ifCond .ne 25, 3) := by decide +kernel
theorem e10_28 : decode jdk_52_method_4_code 28 = .ok (.iload_n 1, 1) := by decide +kernel
theorem e10_29 : decode jdk_52_method_4_code 29 = .ok (.iconst 1, 1) := by decide +kernel
theorem e10_30 : decode jdk_52_method_4_code 30 = .ok (.ishl, 1) := by decide +kernel
theorem e10_31 : decode jdk_52_method_4_code 31 = .ok (.istore_n 1, 1) := by decide +kernel
theorem e10_32 : decode jdk_52_method_4_code 32 = .ok (.aload_n 0, 1) := by decide +kernel
theorem e10_33 : decode jdk_52_method_4_code 33 = .ok (.iload_n 1, 1) := by decide +kernel
theorem e10_34 : decode jdk_52_method_4_code 34 = .ok (.iinc 1 1, 3) := by decide +kernel
theorem e10_37 : decode jdk_52_method_4_code 37 = .ok (.iload_n 2, 1) := by decide +kernel
theorem e10_38 : decode jdk_52_method_4_code 38 = .ok (.getstatic 59, 3) := by decide +kernel
theorem e10_41 : decode jdk_52_method_4_code 41 = .ok (.ishr, 1) := by decide +kernel
theorem e10_42 : decode jdk_52_method_4_code 42 = .ok (.i2b, 1) := by decide +kernel
theorem e10_43 : decode jdk_52_method_4_code 43 = .ok (.bastore, 1) := by decide +kernel
theorem e10_44 : decode jdk_52_method_4_code 44 = .ok (.aload_n 0, 1) := by decide +kernel
theorem e10_45 : decode jdk_52_method_4_code 45 = .ok (.iload_n 1, 1) := by decide +kernel
theorem e10_46 : decode jdk_52_method_4_code 46 = .ok (.iload_n 2, 1) := by decide +kernel
theorem e10_47 : decode jdk_52_method_4_code 47 = .ok (.getstatic 63, 3) := by decide +kernel
theorem e10_50 : decode jdk_52_method_4_code 50 = .ok (.ishr, 1) := by decide +kernel
theorem e10_51 : decode jdk_52_method_4_code 51 = .ok (.i2b, 1) := by decide +kernel
theorem e10_52 : decode jdk_52_method_4_code 52 = .ok (.bastore, 1) := by decide +kernel
theorem e10_53 : decode jdk_52_method_4_code 53 = .ok (.return_, 1) := by decide +kernel
theorem e7_23 : decode jdk_52_method_14_code 23 = .ok (.iinc 1 1, 3) := by decide +kernel
theorem e7_26 : decode jdk_52_method_14_code 26 = .ok (.iinc 4 1, 3) := by decide +kernel
theorem e7_29 : decode jdk_52_method_14_code 29 = .ok (.goto (-21), 3) := by decide +kernel
theorem e7_32 : decode jdk_52_method_14_code 32 = .ok (.aload_n 3, 1) := by decide +kernel
theorem e7_33 : decode jdk_52_method_14_code 33 = .ok (.areturn, 1) := by decide +kernel
theorem e5_26 : decode jdk_52_method_16_code 26 = .ok (.astore 5, 2) := by decide +kernel
theorem e5_28 : decode jdk_52_method_16_code 28 = .ok (.aload 5, 2) := by decide +kernel
theorem e5_30 : decode jdk_52_method_16_code 30 = .ok (.iload 4, 2) := by decide +kernel
theorem e5_32 : decode jdk_52_method_16_code 32 = .ok (.invokestatic 71, 3) := by decide +kernel
theorem e11_0 : decode jdk_52_method_5_code 0 = .ok (.getstatic 44, 3) := by decide +kernel
theorem e11_3 : decode jdk_52_method_5_code 3 = .ok (.ifCond .ne 25, 3) := by decide +kernel
theorem e11_28 : decode jdk_52_method_5_code 28 = .ok (.iload_n 1, 1) := by decide +kernel
theorem e11_29 : decode jdk_52_method_5_code 29 = .ok (.iconst 1, 1) := by decide +kernel
theorem e11_30 : decode jdk_52_method_5_code 30 = .ok (.ishl, 1) := by decide +kernel
theorem e11_31 : decode jdk_52_method_5_code 31 = .ok (.istore_n 1, 1) := by decide +kernel
theorem e11_32 : decode jdk_52_method_5_code 32 = .ok (.aload_n 0, 1) := by decide +kernel
theorem e11_33 : decode jdk_52_method_5_code 33 = .ok (.iload_n 1, 1) := by decide +kernel
theorem e11_34 : decode jdk_52_method_5_code 34 = .ok (.iinc 1 1, 3) := by decide +kernel
theorem e11_37 : decode jdk_52_method_5_code 37 = .ok (.baload, 1) := by decide +kernel
theorem e11_38 : decode jdk_52_method_5_code 38 = .ok (.sipush 255, 3) := by decide +kernel
theorem e11_41 : decode jdk_52_method_5_code 41 = .ok (.iand, 1) := by decide +kernel
theorem e11_42 : decode jdk_52_method_5_code 42 = .ok (.getstatic 59, 3) := by decide +kernel
theorem e11_45 : decode jdk_52_method_5_code 45 = .ok (.ishl, 1) := by decide +kernel
theorem e11_46 : decode jdk_52_method_5_code 46 = .ok (.aload_n 0, 1) := by decide +kernel
theorem e11_47 : decode jdk_52_method_5_code 47 = .ok (.iload_n 1, 1) := by decide +kernel
theorem e11_48 : decode jdk_52_method_5_code 48 = .ok (.baload, 1) := by decide +kernel
theorem e11_49 : decode jdk_52_method_5_code 49 = .ok (.sipush 255, 3) := by decide +kernel
theorem e11_52 : decode jdk_52_method_5_code 52 = .ok (.iand, 1) := by decide +kernel
theorem e11_53 : decode jdk_52_method_5_code 53 = .ok (.getstatic 63, 3) := by decide +kernel
theorem e11_56 : decode jdk_52_method_5_code 56 = .ok (.ishl, 1) := by decide +kernel
theorem e11_57 : decode jdk_52_method_5_code 57 = .ok (.ior, 1) := by decide +kernel
theorem e11_58 : decode jdk_52_method_5_code 58 = .ok (.i2c, 1) := by decide +kernel
theorem e11_59 : decode jdk_52_method_5_code 59 = .ok (.ireturn, 1) := by decide +kernel
theorem e5_35 : decode jdk_52_method_16_code 35 = .ok (.sipush 255, 3) := by decide +kernel
theorem e5_38 : decode jdk_52_method_16_code 38 = .ok (.if_icmp .gt 16, 3) := by decide +kernel
theorem e5_54 : decode jdk_52_method_16_code 54 = .ok (.aload 5, 2) := by decide +kernel
theorem e5_56 : decode jdk_52_method_16_code 56 = .ok (.areturn, 1) := by decide +kernel
theorem e5_57 : decode jdk_52_method_16_code 57 = .ok (.aload_n 3, 1) := by decide +kernel
theorem e5_58 : decode jdk_52_method_16_code 58 = .ok (.areturn, 1) := by decide +kernel
theorem e3_39 : decode jdk_42_method_149_code 39 = .ok (.astore 5, 2) := by decide +kernel
theorem e3_41 : decode jdk_42_method_149_code 41 = .ok (.aload_n 0, 1) := by decide +kernel
theorem e3_42 : decode jdk_42_method_149_code 42 = .ok (.aload 5, 2) := by decide +kernel
theorem e3_44 : decode jdk_42_method_149_code 44 = .ok (.iload_n 3, 1) := by decide +kernel
theorem e3_45 : decode jdk_42_method_149_code 45 = .ok (.invokestatic 47, 3) := by decide +kernel
theorem e12_0 : decode jdk_52_method_15_code 0 = .ok (.iload_n 1, 1) := by decide +kernel
theorem e12_1 : decode jdk_52_method_15_code 1 = .ok (.aload_n 0, 1) := by decide +kernel
theorem e12_2 : decode jdk_52_method_15_code 2 = .ok (.arraylength, 1) := by decide +kernel
theorem e12_3 : decode jdk_52_method_15_code 3 = .ok (.isub, 1) := by decide +kernel
theorem e12_4 : decode jdk_52_method_15_code 4 = .ok (.bipush 31, 2) := by decide +kernel
theorem e12_6 : decode jdk_52_method_15_code 6 = .ok (.iushr, 1) := by decide +kernel
theorem e12_7 : decode jdk_52_method_15_code 7 = .ok (.i2b, 1) := by decide +kernel
theorem e12_8 : decode jdk_52_method_15_code 8 = .ok (.ireturn, 1) := by decide +kernel
theorem e3_48 : decode jdk_42_method_149_code 48 = .ok (.putfield 15, 3) := by decide +kernel
theorem e3_51 : decode jdk_42_method_149_code 51 = .ok (.aload_n 0, 1) := by decide +kernel
theorem e3_52 : decode jdk_42_method_149_code 52 = .ok (.aload 5, 2) := by decide +kernel
theorem e3_54 : decode jdk_42_method_149_code 54 = .ok (.putfield 9, 3) := by decide +kernel
theorem e3_57 : decode jdk_42_method_149_code 57 = .ok (.return_, 1) := by decide +kernel
theorem e1_39 : decode method_4_code 39 = .ok (.areturn, 1) := by decide +kernel
theorem e13_0 : decode method_3_code 0 = .ok (.iload_n 0, 1) := by decide +kernel
theorem e13_1 : decode method_3_code 1 = .ok (.bipush 33, 2) := by decide +kernel
theorem e13_3 : decode method_3_code 3 = .ok (.if_icmp .lt 20, 3) := by decide +kernel
theorem e13_23 : decode method_3_code 23 = .ok (.iconst 0, 1) := by decide +kernel
theorem e13_24 : decode method_3_code 24 = .ok (.ireturn, 1) := by decide +kernel
theorem e13_6 : decode method_3_code 6 = .ok (.iload_n 0, 1) := by decide +kernel
theorem e13_7 : decode method_3_code 7 = .ok (.bipush 126, 2) := by decide +kernel
theorem e13_9 : decode method_3_code 9 = .ok (.if_icmp .gt 14, 3) := by decide +kernel
theorem e13_12 : decode method_3_code 12 = .ok (.iload_n 0, 1) := by decide +kernel
theorem e13_13 : decode method_3_code 13 = .ok (.invokestatic 7, 3) := by decide +kernel
theorem e14_0 : decode method_2_code 0 = .ok (.iload_n 0, 1) := by decide +kernel
theorem e14_1 : decode method_2_code 1 = .ok (.bipush 34, 2) := by decide +kernel
theorem e14_3 : decode method_2_code 3 = .ok (.if_icmp .eq 99, 3) := by decide +kernel
theorem e14_102 : decode method_2_code 102 = .ok (.iconst 1, 1) := by decide +kernel
theorem e14_103 : decode method_2_code 103 = .ok (.goto 4, 3) := by decide +kernel
theorem e14_107 : decode method_2_code 107 = .ok (.ireturn, 1) := by decide +kernel
theorem e14_6 : decode method_2_code 6 = .ok (.iload_n 0, 1) := by decide +kernel
theorem e14_7 : decode method_2_code 7 = .ok (.bipush 40, 2) := by decide +kernel
theorem e14_9 : decode method_2_code 9 = .ok (.if_icmp .eq 93, 3) := by decide +kernel
theorem e14_12 : decode method_2_code 12 = .ok (.iload_n 0, 1) := by decide +kernel
theorem e14_13 : decode method_2_code 13 = .ok (.bipush 41, 2) := by decide +kernel
theorem e14_15 : decode method_2_code 15 = .ok (.if_icmp .eq 87, 3) := by decide +kernel
theorem e14_18 : decode method_2_code 18 = .ok (.iload_n 0, 1) := by decide +kernel
theorem e14_19 : decode method_2_code 19 = .ok (.bipush 44, 2) := by decide +kernel
theorem e14_21 : decode method_2_code 21 = .ok (.if_icmp .eq 81, 3) := by decide +kernel
theorem e14_24 : decode method_2_code 24 = .ok (.iload_n 0, 1) := by decide +kernel
theorem e14_25 : decode method_2_code 25 = .ok (.bipush 47, 2) := by decide +kernel
theorem e14_27 : decode method_2_code 27 = .ok (.if_icmp .eq 75, 3) := by decide +kernel
theorem e14_30 : decode method_2_code 30 = .ok (.iload_n 0, 1) := by decide +kernel
theorem e14_31 : decode method_2_code 31 = .ok (.bipush 58, 2) := by decide +kernel
theorem e14_33 : decode method_2_code 33 = .ok (.if_icmp .eq 69, 3) := by decide +kernel
theorem e14_36 : decode method_2_code 36 = .ok (.iload_n 0, 1) := by decide +kernel
theorem e14_37 : decode method_2_code 37 = .ok (.bipush 59, 2) := by decide +kernel
theorem e14_39 : decode method_2_code 39 = .ok (.if_icmp .eq 63, 3) := by decide +kernel
theorem e14_42 : decode method_2_code 42 = .ok (.iload_n 0, 1) := by decide +kernel
theorem e14_43 : decode method_2_code 43 = .ok (.bipush 60, 2) := by decide +kernel
theorem e14_45 : decode method_2_code 45 = .ok (.if_icmp .eq 57, 3) := by decide +kernel
theorem e14_48 : decode method_2_code 48 = .ok (.iload_n 0, 1) := by decide +kernel
theorem e14_49 : decode method_2_code 49 = .ok (.bipush 61, 2) := by decide +kernel
theorem e14_51 : decode method_2_code 51 = .ok (.if_icmp .eq 51, 3) := by decide +kernel
theorem e14_54 : decode method_2_code 54 = .ok (.iload_n 0, 1) := by decide +kernel
theorem e14_55 : decode method_2_code 55 = .ok (.bipush 62, 2) := by decide +kernel
theorem e14_57 : decode method_2_code 57 = .ok (.if_icmp .eq 45, 3) := by decide +kernel
theorem e14_60 : decode method_2_code 60 = .ok (.iload_n 0, 1) := by decide +kernel
theorem e14_61 : decode method_2_code 61 = .ok (.bipush 63, 2) := by decide +kernel
theorem e14_63 : decode method_2_code 63 = .ok (.if_icmp .eq 39, 3) := by decide +kernel
theorem e14_66 : decode method_2_code 66 = .ok (.iload_n 0, 1) := by decide +kernel
theorem e14_67 : decode method_2_code 67 = .ok (.bipush 64, 2) := by decide +kernel
theorem e14_69 : decode method_2_code 69 = .ok (.if_icmp .eq 33, 3) := by decide +kernel
theorem e14_72 : decode method_2_code 72 = .ok (.iload_n 0, 1) := by decide +kernel
theorem e14_73 : decode method_2_code 73 = .ok (.bipush 91, 2) := by decide +kernel
theorem e14_75 : decode method_2_code 75 = .ok (.if_icmp .eq 27, 3) := by decide +kernel
theorem e14_78 : decode method_2_code 78 = .ok (.iload_n 0, 1) := by decide +kernel
theorem e14_79 : decode method_2_code 79 = .ok (.bipush 92, 2) := by decide +kernel
theorem e14_81 : decode method_2_code 81 = .ok (.if_icmp .eq 21, 3) := by decide +kernel
theorem e14_84 : decode method_2_code 84 = .ok (.iload_n 0, 1) := by decide +kernel
theorem e14_85 : decode method_2_code 85 = .ok (.bipush 93, 2) := by decide +kernel
theorem e14_87 : decode method_2_code 87 = .ok (.if_icmp .eq 15, 3) := by decide +kernel
theorem e14_90 : decode method_2_code 90 = .ok (.iload_n 0, 1) := by decide +kernel
theorem e14_91 : decode method_2_code 91 = .ok (.bipush 123, 2) := by decide +kernel
theorem e14_93 : decode method_2_code 93 = .ok (.if_icmp .eq 9, 3) := by decide +kernel
theorem e14_96 : decode method_2_code 96 = .ok (.iload_n 0, 1) := by decide +kernel
theorem e14_97 : decode method_2_code 97 = .ok (.bipush 125, 2) := by decide +kernel
theorem e14_99 : decode method_2_code 99 = .ok (.if_icmp .ne 7, 3) := by decide +kernel
theorem e14_106 : decode method_2_code 106 = .ok (.iconst 0, 1) := by decide +kernel
theorem e13_16 : decode method_3_code 16 = .ok (.ifCond .ne 7, 3) := by decide +kernel
theorem e13_19 : decode method_3_code 19 = .ok (.iconst 1, 1) := by decide +kernel
theorem e13_20 : decode method_3_code 20 = .ok (.goto 4, 3) := by decide +kernel
theorem e4_12 : decode jdk_42_method_55_code 12 = .ok (.iconst 0, 1) := by decide +kernel
theorem e0_9 : decode prog_28_method_5_code 9 = .ok (.iconst 0, 1) := by decide +kernel
theorem e0_10 : decode prog_28_method_5_code 10 = .ok (.istore_n 1, 1) := by decide +kernel
theorem e0_11 : decode prog_28_method_5_code 11 = .ok (.iload_n 1, 1) := by decide +kernel
theorem e0_12 : decode prog_28_method_5_code 12 = .ok (.aload_n 0, 1) := by decide +kernel
theorem e0_13 : decode prog_28_method_5_code 13 = .ok (.invokevirtual 70, 3) := by decide +kernel
theorem e15_0 : decode jdk_42_method_54_code 0 = .ok (.aload_n 0, 1) := by decide +kernel
theorem e15_1 : decode jdk_42_method_54_code 1 = .ok (.getfield 9, 3) := by decide +kernel
theorem e15_4 : decode jdk_42_method_54_code 4 = .ok (.arraylength, 1) := by decide +kernel
theorem e15_5 : decode jdk_42_method_54_code 5 = .ok (.aload_n 0, 1) := by decide +kernel
theorem e15_6 : decode jdk_42_method_54_code 6 = .ok (.invokevirtual 335, 3) := by decide +kernel
theorem e16_0 : decode jdk_42_method_152_code 0 = .ok (.getstatic 38, 3) := by decide +kernel
theorem e16_3 : decode jdk_42_method_152_code 3 = .ok (.ifCond .eq 10, 3) := by decide +kernel
theorem e16_6 : decode jdk_42_method_152_code 6 = .ok (.aload_n 0, 1) := by decide +kernel
theorem e16_7 : decode jdk_42_method_152_code 7 = .ok (.getfield 15, 3) := by decide +kernel
theorem e16_10 : decode jdk_42_method_152_code 10 = .ok (.goto 4, 3) := by decide +kernel
theorem e16_14 : decode jdk_42_method_152_code 14 = .ok (.ireturn, 1) := by decide +kernel
theorem e15_9 : decode jdk_42_method_54_code 9 = .ok (.ishr, 1) := by decide +kernel
theorem e15_10 : decode jdk_42_method_54_code 10 = .ok (.ireturn, 1) := by decide +kernel
theorem e0_16 : decode prog_28_method_5_code 16 = .ok (.if_icmp .ge 72, 3) := by decide +kernel
theorem e0_19 : decode prog_28_method_5_code 19 = .ok (.aload_n 0, 1) := by decide +kernel
theorem e0_20 : decode prog_28_method_5_code 20 = .ok (.iload_n 1, 1) := by decide +kernel
theorem e0_21 : decode prog_28_method_5_code 21 = .ok (.invokevirtual 74, 3) := by decide +kernel
theorem e17_0 : decode jdk_42_method_56_code 0 = .ok (.aload_n 0, 1) := by decide +kernel
theorem e17_1 : decode jdk_42_method_56_code 1 = .ok (.invokevirtual 492, 3) := by decide +kernel
theorem e18_0 : decode jdk_42_method_154_code 0 = .ok (.getstatic 38, 3) := by decide +kernel
theorem e18_3 : decode jdk_42_method_154_code 3 = .ok (.ifCond .eq 14, 3) := by decide +kernel
theorem e18_6 : decode jdk_42_method_154_code 6 = .ok (.aload_n 0, 1) := by decide +kernel
theorem e18_7 : decode jdk_42_method_154_code 7 = .ok (.getfield 15, 3) := by decide +kernel
theorem e18_10 : decode jdk_42_method_154_code 10 = .ok (.ifCond .ne 7, 3) := by decide +kernel
theorem e18_13 : decode jdk_42_method_154_code 13 = .ok (.iconst 1, 1) := by decide +kernel
theorem e18_14 : decode jdk_42_method_154_code 14 = .ok (.goto 4, 3) := by decide +kernel
theorem e18_18 : decode jdk_42_method_154_code 18 = .ok (.ireturn, 1) := by decide +kernel
theorem e17_4 : decode jdk_42_method_56_code 4 = .ok (.ifCond .eq 12, 3) := by decide +kernel
theorem e17_7 : decode jdk_42_method_56_code 7 = .ok (.aload_n 0, 1) := by decide +kernel
theorem e17_8 : decode jdk_42_method_56_code 8 = .ok (.getfield 9, 3) := by decide +kernel
theorem e17_11 : decode jdk_42_method_56_code 11 = .ok (.iload_n 1, 1) := by decide +kernel
theorem e17_12 : decode jdk_42_method_56_code 12 = .ok (.invokestatic 495, 3) := by decide +kernel
theorem e19_0 : decode jdk_43_method_2_code 0 = .ok (.iload_n 1, 1) := by decide +kernel
theorem e19_1 : decode jdk_43_method_2_code 1 = .ok (.aload_n 0, 1) := by decide +kernel
theorem e19_2 : decode jdk_43_method_2_code 2 = .ok (.arraylength, 1) := by decide +kernel
theorem e19_3 : decode jdk_43_method_2_code 3 = .ok (.invokestatic 9, 3) := by decide +kernel
theorem e20_0 : decode jdk_42_method_155_code 0 = .ok (.iload_n 0, 1) := by decide +kernel
theorem e20_1 : decode jdk_42_method_155_code 1 = .ok (.iload_n 1, 1) := by decide +kernel
theorem e20_2 : decode jdk_42_method_155_code 2 = .ok (.getstatic 1053, 3) := by decide +kernel
theorem e20_5 : decode jdk_42_method_155_code 5 = .ok (.invokestatic 1059, 3) := by decide +kernel
theorem e21_0 : decode jdk_41_method_11_code 0 = .ok (.iload_n 0, 1) := by decide +kernel
theorem e21_1 : decode jdk_41_method_11_code 1 = .ok (.ifCond .lt 8, 3) := by decide +kernel
theorem e21_4 : decode jdk_41_method_11_code 4 = .ok (.iload_n 0, 1) := by decide +kernel
theorem e21_5 : decode jdk_41_method_11_code 5 = .ok (.iload_n 1, 1) := by decide +kernel
theorem e21_6 : decode jdk_41_method_11_code 6 = .ok (.if_icmp .lt 10, 3) := by decide +kernel
theorem e21_16 : decode jdk_41_method_11_code 16 = .ok (.iload_n 0, 1) := by decide +kernel
theorem e21_17 : decode jdk_41_method_11_code 17 = .ok (.ireturn, 1) := by decide +kernel
theorem e20_8 : decode jdk_42_method_155_code 8 = .ok (.pop, 1) := by decide +kernel
theorem e20_9 : decode jdk_42_method_155_code 9 = .ok (.return_, 1) := by decide +kernel
theorem e19_6 : decode jdk_43_method_2_code 6 = .ok (.aload_n 0, 1) := by decide +kernel
theorem e19_7 : decode jdk_43_method_2_code 7 = .ok (.iload_n 1, 1) := by decide +kernel
theorem e19_8 : decode jdk_43_method_2_code 8 = .ok (.baload, 1) := by decide +kernel
theorem e19_9 : decode jdk_43_method_2_code 9 = .ok (.sipush 255, 3) := by decide +kernel
theorem e19_12 : decode jdk_43_method_2_code 12 = .ok (.iand, 1) := by decide +kernel
theorem e19_13 : decode jdk_43_method_2_code 13 = .ok (.i2c, 1) := by decide +kernel
theorem e19_14 : decode jdk_43_method_2_code 14 = .ok (.ireturn, 1) := by decide +kernel
theorem e17_15 : decode jdk_42_method_56_code 15 = .ok (.ireturn, 1) := by decide +kernel
theorem e18_17 : decode jdk_42_method_154_code 17 = .ok (.iconst 0, 1) := by decide +kernel
theorem e17_16 : decode jdk_42_method_56_code 16 = .ok (.aload_n 0, 1) := by decide +kernel
theorem e17_17 : decode jdk_42_method_56_code 17 = .ok (.getfield 9, 3) := by decide +kernel
theorem e17_20 : decode jdk_42_method_56_code 20 = .ok (.iload_n 1, 1) := by decide +kernel
theorem e17_21 : decode jdk_42_method_56_code 21 = .ok (.invokestatic 498, 3) := by decide +kernel
theorem e22_0 : decode jdk_52_method_83_code 0 = .ok (.iload_n 1, 1) := by decide +kernel
theorem e22_1 : decode jdk_52_method_83_code 1 = .ok (.aload_n 0, 1) := by decide +kernel
theorem e22_2 : decode jdk_52_method_83_code 2 = .ok (.invokestatic 67, 3) := by decide +kernel
theorem e23_0 : decode jdk_52_method_91_code 0 = .ok (.iload_n 0, 1) := by decide +kernel
theorem e23_1 : decode jdk_52_method_91_code 1 = .ok (.aload_n 1, 1) := by decide +kernel
theorem e23_2 : decode jdk_52_method_91_code 2 = .ok (.invokestatic 48, 3) := by decide +kernel
theorem e24_0 : decode jdk_52_method_6_code 0 = .ok (.aload_n 0, 1) := by decide +kernel
theorem e24_1 : decode jdk_52_method_6_code 1 = .ok (.arraylength, 1) := by decide +kernel
theorem e24_2 : decode jdk_52_method_6_code 2 = .ok (.iconst 1, 1) := by decide +kernel
theorem e24_3 : decode jdk_52_method_6_code 3 = .ok (.ishr, 1) := by decide +kernel
theorem e24_4 : decode jdk_52_method_6_code 4 = .ok (.ireturn, 1) := by decide +kernel
theorem e23_5 : decode jdk_52_method_91_code 5 = .ok (.invokestatic 414, 3) := by decide +kernel
theorem e23_8 : decode jdk_52_method_91_code 8 = .ok (.return_, 1) := by decide +kernel
theorem e22_5 : decode jdk_52_method_83_code 5 = .ok (.aload_n 0, 1) := by decide +kernel
theorem e22_6 : decode jdk_52_method_83_code 6 = .ok (.iload_n 1, 1) := by decide +kernel
theorem e22_7 : decode jdk_52_method_83_code 7 = .ok (.invokestatic 71, 3) := by decide +kernel
theorem e22_10 : decode jdk_52_method_83_code 10 = .ok (.ireturn, 1) := by decide +kernel
theorem e17_24 : decode jdk_42_method_56_code 24 = .ok (.ireturn, 1) := by decide +kernel
theorem e0_24 : decode prog_28_method_5_code 24 = .ok (.istore_n 2, 1) := by decide +kernel
theorem e0_71 : decode prog_28_method_5_code 71 = .ok (.ldc 78, 2) := by decide +kernel
theorem e0_73 : decode prog_28_method_5_code 73 = .ok (.iload_n 2, 1) := by decide +kernel
theorem e0_74 : decode prog_28_method_5_code 74 = .ok (.invokevirtual 41, 3) := by decide +kernel
theorem e25_0 : decode jdk_42_method_79_code 0 = .ok (.aload_n 0, 1) := by decide +kernel
theorem e25_1 : decode jdk_42_method_79_code 1 = .ok (.iload_n 1, 1) := by decide +kernel
theorem e25_2 : decode jdk_42_method_79_code 2 = .ok (.iconst 0, 1) := by decide +kernel
theorem e25_3 : decode jdk_42_method_79_code 3 = .ok (.invokevirtual 633, 3) := by decide +kernel
theorem e26_0 : decode jdk_42_method_80_code 0 = .ok (.aload_n 0, 1) := by decide +kernel
theorem e26_1 : decode jdk_42_method_80_code 1 = .ok (.invokevirtual 492, 3) := by decide +kernel
theorem e26_4 : decode jdk_42_method_80_code 4 = .ok (.ifCond .eq 19, 3) := by decide +kernel
theorem e26_7 : decode jdk_42_method_80_code 7 = .ok (.aload_n 0, 1) := by decide +kernel
theorem e26_8 : decode jdk_42_method_80_code 8 = .ok (.getfield 9, 3) := by decide +kernel
theorem e26_11 : decode jdk_42_method_80_code 11 = .ok (.iload_n 1, 1) := by decide +kernel
theorem e26_12 : decode jdk_42_method_80_code 12 = .ok (.iload_n 2, 1) := by decide +kernel
theorem e26_13 : decode jdk_42_method_80_code 13 = .ok (.aload_n 0, 1) := by decide +kernel
theorem e26_14 : decode jdk_42_method_80_code 14 = .ok (.invokevirtual 505, 3) := by decide +kernel
theorem e26_17 : decode jdk_42_method_80_code 17 = .ok (.invokestatic 637, 3) := by decide +kernel
theorem e27_0 : decode jdk_43_method_22_code 0 = .ok (.iload_n 1, 1) := by decide +kernel
theorem e27_1 : decode jdk_43_method_22_code 1 = .ok (.invokestatic 88, 3) := by decide +kernel
theorem e28_0 : decode jdk_43_method_4_code 0 = .ok (.iload_n 0, 1) := by decide +kernel
theorem e28_1 : decode jdk_43_method_4_code 1 = .ok (.ifCond .lt 14, 3) := by decide +kernel
theorem e28_4 : decode jdk_43_method_4_code 4 = .ok (.iload_n 0, 1) := by decide +kernel
theorem e28_5 : decode jdk_43_method_4_code 5 = .ok (.sipush 255, 3) := by decide +kernel
theorem e28_8 : decode jdk_43_method_4_code 8 = .ok (.if_icmp .gt 7, 3) := by decide +kernel
theorem e28_15 : decode jdk_43_method_4_code 15 = .ok (.iconst 0, 1) := by decide +kernel
theorem e28_16 : decode jdk_43_method_4_code 16 = .ok (.ireturn, 1) := by decide +kernel
theorem e28_11 : decode jdk_43_method_4_code 11 = .ok (.iconst 1, 1) := by decide +kernel
theorem e28_12 : decode jdk_43_method_4_code 12 = .ok (.goto 4, 3) := by decide +kernel
theorem e27_4 : decode jdk_43_method_22_code 4 = .ok (.ifCond .ne 5, 3) := by decide +kernel
theorem e27_7 : decode jdk_43_method_22_code 7 = .ok (.iconst (-1), 1) := by decide +kernel
theorem e27_8 : decode jdk_43_method_22_code 8 = .ok (.ireturn, 1) := by decide +kernel
theorem e27_9 : decode jdk_43_method_22_code 9 = .ok (.iload_n 2, 1) := by decide +kernel
theorem e27_10 : decode jdk_43_method_22_code 10 = .ok (.iconst 0, 1) := by decide +kernel
theorem e27_11 : decode jdk_43_method_22_code 11 = .ok (.invokestatic 92, 3) := by decide +kernel
theorem e29_0 : decode jdk_29_method_65_code 0 = .ok (.iload_n 0, 1) := by decide +kernel
theorem e29_1 : decode jdk_29_method_65_code 1 = .ok (.iload_n 1, 1) := by decide +kernel
theorem e29_2 : decode jdk_29_method_65_code 2 = .ok (.if_icmp .lt 7, 3) := by decide +kernel
theorem e29_5 : decode jdk_29_method_65_code 5 = .ok (.iload_n 0, 1) := by decide +kernel
theorem e29_6 : decode jdk_29_method_65_code 6 = .ok (.goto 4, 3) := by decide +kernel
theorem e29_10 : decode jdk_29_method_65_code 10 = .ok (.ireturn, 1) := by decide +kernel
theorem e27_14 : decode jdk_43_method_22_code 14 = .ok (.istore_n 2, 1) := by decide +kernel
theorem e27_15 : decode jdk_43_method_22_code 15 = .ok (.iload_n 3, 1) := by decide +kernel
theorem e27_16 : decode jdk_43_method_22_code 16 = .ok (.aload_n 0, 1) := by decide +kernel
theorem e27_17 : decode jdk_43_method_22_code 17 = .ok (.arraylength, 1) := by decide +kernel
theorem e27_18 : decode jdk_43_method_22_code 18 = .ok (.invokestatic 38, 3) := by decide +kernel
theorem e30_0 : decode jdk_29_method_69_code 0 = .ok (.iload_n 0, 1) := by decide +kernel
theorem e30_1 : decode jdk_29_method_69_code 1 = .ok (.iload_n 1, 1) := by decide +kernel
theorem e30_2 : decode jdk_29_method_69_code 2 = .ok (.if_icmp .gt 7, 3) := by decide +kernel
theorem e30_5 : decode jdk_29_method_69_code 5 = .ok (.iload_n 0, 1) := by decide +kernel
theorem e30_6 : decode jdk_29_method_69_code 6 = .ok (.goto 4, 3) := by decide +kernel
theorem e30_10 : decode jdk_29_method_69_code 10 = .ok (.ireturn, 1) := by decide +kernel
theorem e27_21 : decode jdk_43_method_22_code 21 = .ok (.istore_n 3, 1) := by decide +kernel
theorem e27_22 : decode jdk_43_method_22_code 22 = .ok (.iload_n 2, 1) := by decide +kernel
theorem e27_23 : decode jdk_43_method_22_code 23 = .ok (.iload_n 3, 1) := by decide +kernel
theorem e27_24 : decode jdk_43_method_22_code 24 = .ok (.if_icmp .lt 5, 3) := by decide +kernel
theorem e27_29 : decode jdk_43_method_22_code 29 = .ok (.aload_n 0, 1) := by decide +kernel
theorem e27_30 : decode jdk_43_method_22_code 30 = .ok (.iload_n 1, 1) := by decide +kernel
theorem e27_31 : decode jdk_43_method_22_code 31 = .ok (.iload_n 2, 1) := by decide +kernel
theorem e27_32 : decode jdk_43_method_22_code 32 = .ok (.iload_n 3, 1) := by decide +kernel
theorem e27_33 : decode jdk_43_method_22_code 33 = .ok (.invokestatic 95, 3) := by decide +kernel
theorem e31_0 : decode jdk_43_method_23_code 0 = .ok (.iload_n 1, 1) := by decide +kernel
theorem e31_1 : decode jdk_43_method_23_code 1 = .ok (.i2b, 1) := by decide +kernel
theorem e31_2 : decode jdk_43_method_23_code 2 = .ok (.istore 4, 2) := by decide +kernel
theorem e31_4 : decode jdk_43_method_23_code 4 = .ok (.iload_n 2, 1) := by decide +kernel
theorem e31_5 : decode jdk_43_method_23_code 5 = .ok (.istore 5, 2) := by decide +kernel
theorem e31_7 : decode jdk_43_method_23_code 7 = .ok (.iload 5, 2) := by decide +kernel
theorem e31_9 : decode jdk_43_method_23_code 9 = .ok (.iload_n 3, 1) := by decide +kernel
theorem e31_10 : decode jdk_43_method_23_code 10 = .ok (.if_icmp .ge 21, 3) := by decide +kernel
theorem e31_13 : decode jdk_43_method_23_code 13 = .ok (.aload_n 0, 1) := by decide +kernel
theorem e31_14 : decode jdk_43_method_23_code 14 = .ok (.iload 5, 2) := by decide +kernel
theorem e31_16 : decode jdk_43_method_23_code 16 = .ok (.baload, 1) := by decide +kernel
theorem e31_17 : decode jdk_43_method_23_code 17 = .ok (.iload 4, 2) := by decide +kernel
theorem e31_19 : decode jdk_43_method_23_code 19 = .ok (.if_icmp .ne 6, 3) := by decide +kernel
theorem e31_22 : decode jdk_43_method_23_code 22 = .ok (.iload 5, 2) := by decide +kernel
theorem e31_24 : decode jdk_43_method_23_code 24 = .ok (.ireturn, 1) := by decide +kernel
theorem e31_25 : decode jdk_43_method_23_code 25 = .ok (.iinc 5 1, 3) := by decide +kernel
theorem e31_28 : decode jdk_43_method_23_code 28 = .ok (.goto (-21), 3) := by decide +kernel
theorem e31_31 : decode jdk_43_method_23_code 31 = .ok (.iconst (-1), 1) := by decide +kernel
theorem e31_32 : decode jdk_43_method_23_code 32 = .ok (.ireturn, 1) := by decide +kernel
theorem e27_36 : decode jdk_43_method_22_code 36 = .ok (.ireturn, 1) := by decide +kernel
theorem e26_20 : decode jdk_42_method_80_code 20 = .ok (.goto 16, 3) := by decide +kernel
theorem e26_36 : decode jdk_42_method_80_code 36 = .ok (.ireturn, 1) := by decide +kernel
theorem e25_6 : decode jdk_42_method_79_code 6 = .ok (.ireturn, 1) := by decide +kernel
theorem e0_77 : decode prog_28_method_5_code 77 = .ok (.ifCond .ge 5, 3) := by decide +kernel
theorem e0_80 : decode prog_28_method_5_code 80 = .ok (.iconst 0, 1) := by decide +kernel
theorem e0_81 : decode prog_28_method_5_code 81 = .ok (.ireturn, 1) := by decide +kernel
theorem e0_82 : decode prog_28_method_5_code 82 = .ok (.iinc 1 1, 3) := by decide +kernel
theorem e0_85 : decode prog_28_method_5_code 85 = .ok (.goto (-74), 3) := by decide +kernel
theorem e0_88 : decode prog_28_method_5_code 88 = .ok (.iconst 1, 1) := by decide +kernel
theorem e0_89 : decode prog_28_method_5_code 89 = .ok (.ireturn, 1) := by decide +kernel
theorem e1_40 : decode method_4_code 40 = .ok (.iload_n 0, 1) := by decide +kernel
theorem e1_41 : decode method_4_code 41 = .ok (.iconst 2, 1) := by decide +kernel
theorem e1_42 : decode method_4_code 42 = .ok (.if_icmp .ne 28, 3) := by decide +kernel
theorem e1_45 : decode method_4_code 45 = .ok (.iconst 2, 1) := by decide +kernel
theorem e1_46 : decode method_4_code 46 = .ok (.newarray .char, 2) := by decide +kernel
theorem e1_48 : decode method_4_code 48 = .ok (.astore 5, 2) := by decide +kernel
theorem e1_50 : decode method_4_code 50 = .ok (.aload 5, 2) := by decide +kernel
theorem e1_52 : decode method_4_code 52 = .ok (.iconst 0, 1) := by decide +kernel
theorem e1_53 : decode method_4_code 53 = .ok (.iload_n 1, 1) := by decide +kernel
theorem e1_54 : decode method_4_code 54 = .ok (.castore, 1) := by decide +kernel
theorem e1_55 : decode method_4_code 55 = .ok (.aload 5, 2) := by decide +kernel
theorem e1_57 : decode method_4_code 57 = .ok (.iconst 1, 1) := by decide +kernel
theorem e1_58 : decode method_4_code 58 = .ok (.iload_n 2, 1) := by decide +kernel
theorem e1_59 : decode method_4_code 59 = .ok (.castore, 1) := by decide +kernel
theorem e1_60 : decode method_4_code 60 = .ok (.new 13, 3) := by decide +kernel
theorem e1_63 : decode method_4_code 63 = .ok (.dup, 1) := by decide +kernel
theorem e1_64 : decode method_4_code 64 = .ok (.aload 5, 2) := by decide +kernel
theorem e1_66 : decode method_4_code 66 = .ok (.invokespecial 15, 3) := by decide +kernel
theorem e1_69 : decode method_4_code 69 = .ok (.areturn, 1) := by decide +kernel
theorem e1_70 : decode method_4_code 70 = .ok (.iload_n 0, 1) := by decide +kernel
theorem e1_71 : decode method_4_code 71 = .ok (.iconst 3, 1) := by decide +kernel
theorem e1_72 : decode method_4_code 72 = .ok (.if_icmp .ne 33, 3) := by decide +kernel
theorem e1_75 : decode method_4_code 75 = .ok (.iconst 3, 1) := by decide +kernel
theorem e1_76 : decode method_4_code 76 = .ok (.newarray .char, 2) := by decide +kernel
theorem e1_78 : decode method_4_code 78 = .ok (.astore 5, 2) := by decide +kernel
theorem e1_80 : decode method_4_code 80 = .ok (.aload 5, 2) := by decide +kernel
theorem e1_82 : decode method_4_code 82 = .ok (.iconst 0, 1) := by decide +kernel
theorem e1_83 : decode method_4_code 83 = .ok (.iload_n 1, 1) := by decide +kernel
theorem e1_84 : decode method_4_code 84 = .ok (.castore, 1) := by decide +kernel
theorem e1_85 : decode method_4_code 85 = .ok (.aload 5, 2) := by decide +kernel
theorem e1_87 : decode method_4_code 87 = .ok (.iconst 1, 1) := by decide +kernel
theorem e1_88 : decode method_4_code 88 = .ok (.iload_n 2, 1) := by decide +kernel
theorem e1_89 : decode method_4_code 89 = .ok (.castore, 1) := by decide +kernel
theorem e1_90 : decode method_4_code 90 = .ok (.aload 5, 2) := by decide +kernel
theorem e1_92 : decode method_4_code 92 = .ok (.iconst 2, 1) := by decide +kernel
theorem e1_93 : decode method_4_code 93 = .ok (.iload_n 3, 1) := by decide +kernel
theorem e1_94 : decode method_4_code 94 = .ok (.castore, 1) := by decide +kernel
theorem e1_95 : decode method_4_code 95 = .ok (.new 13, 3) := by decide +kernel
theorem e1_98 : decode method_4_code 98 = .ok (.dup, 1) := by decide +kernel
theorem e1_99 : decode method_4_code 99 = .ok (.aload 5, 2) := by decide +kernel
theorem e1_101 : decode method_4_code 101 = .ok (.invokespecial 15, 3) := by decide +kernel
theorem e1_104 : decode method_4_code 104 = .ok (.areturn, 1) := by decide +kernel
theorem e1_105 : decode method_4_code 105 = .ok (.iconst 4, 1) := by decide +kernel
theorem e1_106 : decode method_4_code 106 = .ok (.newarray .char, 2) := by decide +kernel
theorem e1_108 : decode method_4_code 108 = .ok (.astore 5, 2) := by decide +kernel
theorem e1_110 : decode method_4_code 110 = .ok (.aload 5, 2) := by decide +kernel
theorem e1_112 : decode method_4_code 112 = .ok (.iconst 0, 1) := by decide +kernel
theorem e1_113 : decode method_4_code 113 = .ok (.iload_n 1, 1) := by decide +kernel
theorem e1_114 : decode method_4_code 114 = .ok (.castore, 1) := by decide +kernel
theorem e1_115 : decode method_4_code 115 = .ok (.aload 5, 2) := by decide +kernel
theorem e1_117 : decode method_4_code 117 = .ok (.iconst 1, 1) := by decide +kernel
theorem e1_118 : decode method_4_code 118 = .ok (.iload_n 2, 1) := by decide +kernel
theorem e1_119 : decode method_4_code 119 = .ok (.castore, 1) := by decide +kernel
theorem e1_120 : decode method_4_code 120 = .ok (.aload 5, 2) := by decide +kernel
theorem e1_122 : decode method_4_code 122 = .ok (.iconst 2, 1) := by decide +kernel
theorem e1_123 : decode method_4_code 123 = .ok (.iload_n 3, 1) := by decide +kernel
theorem e1_124 : decode method_4_code 124 = .ok (.castore, 1) := by decide +kernel
theorem e1_125 : decode method_4_code 125 = .ok (.aload 5, 2) := by decide +kernel
theorem e1_127 : decode method_4_code 127 = .ok (.iconst 3, 1) := by decide +kernel
theorem e1_128 : decode method_4_code 128 = .ok (.iload 4, 2) := by decide +kernel
theorem e1_130 : decode method_4_code 130 = .ok (.castore, 1) := by decide +kernel
theorem e1_131 : decode method_4_code 131 = .ok (.new 13, 3) := by decide +kernel
theorem e1_134 : decode method_4_code 134 = .ok (.dup, 1) := by decide +kernel
theorem e1_135 : decode method_4_code 135 = .ok (.aload 5, 2) := by decide +kernel
theorem e1_137 : decode method_4_code 137 = .ok (.invokespecial 15, 3) := by decide +kernel
theorem e1_140 : decode method_4_code 140 = .ok (.areturn, 1) := by decide +kernel
theorem pd0 : parseMethodDescriptor "([CIILjava/lang/Void;)V" = some ⟨[(.array .char), .int, .int, (.object "java/lang/Void")], none⟩ := by decide +kernel
theorem pd1 : parseMethodDescriptor "([C)V" = some ⟨[(.array .char)], none⟩ := by decide +kernel
theorem pd2 : parseMethodDescriptor "(ICCCC)Ljava/lang/String;" = some ⟨[.int, .char, .char, .char, .char], (some (.object "java/lang/String"))⟩ := by decide +kernel
theorem pd3 : parseMethodDescriptor "()Z" = some ⟨[], (some .boolean)⟩ := by decide +kernel
theorem pd4 : parseMethodDescriptor "(Ljava/lang/String;)Z" = some ⟨[(.object "java/lang/String")], (some .boolean)⟩ := by decide +kernel
theorem pd5 : parseMethodDescriptor "([CI[BII)I" = some ⟨[(.array .char), .int, (.array .byte), .int, .int], (some .int)⟩ := by decide +kernel
theorem pd6 : parseMethodDescriptor "(I)I" = some ⟨[.int], (some .int)⟩ := by decide +kernel
theorem pd7 : parseMethodDescriptor "(I)[B" = some ⟨[.int], (some (.array .byte))⟩ := by decide +kernel
theorem pd8 : parseMethodDescriptor "([BII)V" = some ⟨[(.array .byte), .int, .int], none⟩ := by decide +kernel
theorem pd9 : parseMethodDescriptor "([CII)[B" = some ⟨[(.array .char), .int, .int], (some (.array .byte))⟩ := by decide +kernel
theorem pd10 : parseMethodDescriptor "([BI)C" = some ⟨[(.array .byte), .int], (some .char)⟩ := by decide +kernel
theorem pd11 : parseMethodDescriptor "([BI)B" = some ⟨[(.array .byte), .int], (some .byte)⟩ := by decide +kernel
theorem pd12 : parseMethodDescriptor "(I)Z" = some ⟨[.int], (some .boolean)⟩ := by decide +kernel
theorem pd13 : parseMethodDescriptor "()B" = some ⟨[], (some .byte)⟩ := by decide +kernel
theorem pd14 : parseMethodDescriptor "()I" = some ⟨[], (some .int)⟩ := by decide +kernel
theorem pd15 : parseMethodDescriptor "(IILjava/util/function/BiFunction;)I" = some ⟨[.int, .int, (.object "java/util/function/BiFunction")], (some .int)⟩ := by decide +kernel
theorem pd16 : parseMethodDescriptor "(II)V" = some ⟨[.int, .int], none⟩ := by decide +kernel
theorem pd17 : parseMethodDescriptor "([B)I" = some ⟨[(.array .byte)], (some .int)⟩ := by decide +kernel
theorem pd18 : parseMethodDescriptor "(I[B)V" = some ⟨[.int, (.array .byte)], none⟩ := by decide +kernel
theorem pd19 : parseMethodDescriptor "(I)C" = some ⟨[.int], (some .char)⟩ := by decide +kernel
theorem pd20 : parseMethodDescriptor "(II)I" = some ⟨[.int, .int], (some .int)⟩ := by decide +kernel
theorem pd21 : parseMethodDescriptor "([BIII)I" = some ⟨[(.array .byte), .int, .int, .int], (some .int)⟩ := by decide +kernel
theorem pn0 : plainName "com/example/countersign/countersign/request/HeaderIsTokenPinLaw" = true := by first | (simp [plainName, overriddenIn]; done) | decide +kernel
theorem pn1 : plainName "java/lang/String" = true := by first | (simp [plainName, overriddenIn]; done) | decide +kernel
theorem pn2 : plainName "com/example/countersign/countersign/request/Header" = true := by first | (simp [plainName, overriddenIn]; done) | decide +kernel
theorem pn3 : plainName "java/lang/StringUTF16" = true := by first | (simp [plainName, overriddenIn]; done) | decide +kernel
theorem pn4 : plainName "java/lang/StringLatin1" = true := by first | (simp [plainName, overriddenIn]; done) | decide +kernel
theorem pn5 : plainName "jdk/internal/util/Preconditions" = true := by first | (simp [plainName, overriddenIn]; done) | decide +kernel
def GlS (Z : State) : Prop := Sta Z Z.heap "java/lang/StringUTF16" "$assertionsDisabled" "Z" (.int 1) ∧ Sta Z Z.heap "java/lang/StringUTF16" "HI_BYTE_SHIFT" "I" (.int 0) ∧ Sta Z Z.heap "java/lang/StringUTF16" "LO_BYTE_SHIFT" "I" (.int 8)
theorem hEW {a0 : Array Value} {Z : State} (hw : Hw a0 Z) : EW Z a0 EL1 := EW.cons (w20 hw) (by decide) (EW.cons (w83 hw) (by decide) (EW.nil))
theorem hSA {a0 : Array Value} {Z : State} (hw : Hw a0 Z) : ∀ w ∈ Bundle.stringAtoms, w.before a0 Z = true := by
  intro w hq
  simp only [Bundle.stringAtoms, List.mem_cons, List.not_mem_nil, or_false] at hq
  rcases hq with rfl | rfl | rfl | rfl | rfl | rfl | rfl
  · exact (w8 hw)
  · exact (w7 hw)
  · exact (w21 hw)
  · exact (w22 hw)
  · exact (w23 hw)
  · exact (w24 hw)
  · exact (w25 hw)
def alP (x : Int32) : Prop := (48 ≤ x.toInt ∧ x.toInt ≤ 57) ∨ (65 ≤ x.toInt ∧ x.toInt ≤ 90) ∨ (97 ≤ x.toInt ∧ x.toInt ≤ 122)
def symP (x : Int32) : Prop := x.toInt = 33 ∨ x.toInt = 35 ∨ x.toInt = 36 ∨ x.toInt = 37 ∨ x.toInt = 38 ∨ x.toInt = 39 ∨ x.toInt = 42 ∨ x.toInt = 43 ∨ x.toInt = 45 ∨ x.toInt = 46 ∨ x.toInt = 94 ∨ x.toInt = 95 ∨ x.toInt = 96 ∨ x.toInt = 124 ∨ x.toInt = 126
def tokP (x : Int32) : Prop := alP x ∨ symP x
theorem own_i0 {x : Int32} (h : ¬ x < (0 : Int32)) : 0 ≤ x.toInt := by
  simp only [Int32.lt_iff_toInt_lt, Int32.reduceToInt] at h; omega
theorem own_i1 {x : Int32} (h : ¬ (65535 : Int32) < x) : x.toInt ≤ 65535 := by
  simp only [Int32.lt_iff_toInt_lt, Int32.reduceToInt] at h; omega
theorem own_sub {x y d : Int32} (hd : x - y = d) (hx : 0 ≤ x.toInt ∧ x.toInt ≤ 65535) (hy : 0 ≤ y.toInt ∧ y.toInt ≤ 65535) : d.toInt = x.toInt - y.toInt := by
  have h1 := c_isub x y
  have h2 := rng32 (x - y)
  rw [hd] at h1 h2
  omega
theorem own_or32n (n : Nat) : n ||| 32 = if n / 32 % 2 = 1 then n else n + 32 := by
  have q : n = (n / 32) <<< 5 + n % 32 := by rw [Nat.shiftLeft_eq]; omega
  have q2 : n = (n / 32) <<< 5 ||| n % 32 := by rw [← Nat.shiftLeft_add_eq_or_of_lt (by omega : n % 32 < 2 ^ 5)]; exact q
  have q3 : (n / 32) ||| 1 = if n / 32 % 2 = 1 then n / 32 else n / 32 + 1 := by
    generalize n / 32 = k
    have h1 : k = (k / 2) <<< 1 ||| k % 2 := by rw [← Nat.shiftLeft_add_eq_or_of_lt (by omega : k % 2 < 2 ^ 1), Nat.shiftLeft_eq]; omega
    have h2 : k ||| 1 = (k / 2) <<< 1 ||| 1 := by
      conv => lhs; rw [h1]
      rw [Nat.or_assoc]
      have : k % 2 = 0 ∨ k % 2 = 1 := by omega
      rcases this with t | t <;> rw [t] <;> rfl
    rw [h2, ← Nat.shiftLeft_add_eq_or_of_lt (by omega : 1 < 2 ^ 1), Nat.shiftLeft_eq]
    split <;> omega
  have q4 : n ||| 32 = ((n / 32) ||| 1) <<< 5 ||| n % 32 := by
    conv => lhs; rw [q2]
    rw [Nat.or_assoc, Nat.or_comm (n % 32) 32, ← Nat.or_assoc, show (32 : Nat) = 1 <<< 5 from rfl, ← Nat.shiftLeft_or_distrib]
  rw [q4, q3, ← Nat.shiftLeft_add_eq_or_of_lt (by omega : n % 32 < 2 ^ 5), Nat.shiftLeft_eq]
  split <;> omega
theorem own_or32 {x z : Int32} (hz : x ||| 32 = z) (h0 : 0 ≤ x.toInt) (h1 : x.toInt ≤ 65535) : (x.toInt / 32 % 2 = 1 ∧ z.toInt = x.toInt) ∨ (x.toInt / 32 % 2 = 0 ∧ z.toInt = x.toInt + 32) := by
  subst hz
  have hn := Ow.toNat_rng (n := 65535) h0 h1 (by decide)
  have e1 : (x ||| 32).toBitVec.toNat = x.toBitVec.toNat ||| 32 := by simp
  have e2 := Ow.toInt_small (x := x) hn (by decide)
  have e3 := own_or32n x.toBitVec.toNat
  have hle : (x ||| 32).toBitVec.toNat ≤ 131071 := by rw [e1, e3]; split <;> omega
  rw [Ow.toInt_small hle (by decide), e1, e3, e2]
  split <;> omega
theorem own_i8 {x : Int32} (h0 : ¬ x < (0 : Int32)) (h1 : ¬ (255 : Int32) < x) : (x.toInt < 128 ∧ x.toInt8.toInt32.toInt = x.toInt) ∨ (128 ≤ x.toInt ∧ x.toInt8.toInt32.toInt = x.toInt - 256) := by
  have := Ow.all256 (fun x => decide ((x.toInt < 128 ∧ x.toInt8.toInt32.toInt = x.toInt) ∨ (128 ≤ x.toInt ∧ x.toInt8.toInt32.toInt = x.toInt - 256))) (by decide +kernel) h0 h1
  exact of_decide_eq_true this
theorem own_i255 {x : Int32} (h : ¬ (255 : Int32) < x) : x.toInt ≤ 255 := by
  simp only [Int32.lt_iff_toInt_lt, Int32.reduceToInt] at h; omega
theorem own_nosym {x : Int32} (h : (255 : Int32) < x) : ¬ symP x := by
  simp only [Int32.lt_iff_toInt_lt, Int32.reduceToInt] at h; unfold symP; omega
def delP (x : Int32) : Prop := x.toInt = 34 ∨ x.toInt = 40 ∨ x.toInt = 41 ∨ x.toInt = 44 ∨ x.toInt = 47 ∨ x.toInt = 58 ∨ x.toInt = 59 ∨ x.toInt = 60 ∨ x.toInt = 61 ∨ x.toInt = 62 ∨ x.toInt = 63 ∨ x.toInt = 64 ∨ x.toInt = 91 ∨ x.toInt = 92 ∨ x.toInt = 93 ∨ x.toInt = 123 ∨ x.toInt = 125

variable {l : Launch} {Z : State} {n0 : Nat} {a0 : Array Value} {cz : Int32} {sf : Value}
set_option maxRecDepth 65536 in
set_option maxHeartbeats 40000000 in
theorem blk_al_u {l : Launch} {Z : State} {n0 : Nat} {a0 : Array Value} {p : Program} {e : Env} {R : Room} {s : State} {m : MethodId} {args : Array Value} {below : List Frame} {meth : Method} {c : ClassFile.Code} {Q : Ow.Po} {S : List Addr} {h : Heap} {k n : Nat} {ret' : Option FieldType} {nm' : String} (hw : Hw a0 Z) (B : Ow.Bdy p meth c Z EL1 a0 prog_28_method_5_code 4 ret' nm') {pa0 : Nat} {pi px pb : Int32} (hr : ¬ px < (0 : Int32) ∧ ¬ (65535 : Int32) < px) (hk : alP px) (J : ∀ b : Int32, Ow.Go p l e R s m args below meth c Z EL1 n0 "com/example/countersign/countersign/request/Header" Q S h k n 82 #[.val (.ref pa0), .val (.int pi), .val (.int px), .val (.int b)] []) :
  Ow.Go p l e R s m args below meth c Z EL1 n0 "com/example/countersign/countersign/request/Header" Q S h k n 25 #[.val (.ref pa0), .val (.int pi), .val (.int px), .unset] [] := by
 have i0 := own_i0 hr.1
 have i1 := own_i1 hr.2
 unfold alP at hk
 refine Ow.iloadN (pc' := 26) B e0_25 ?_
 refine Ow.bipush (pc' := 28) (x := 97) B e0_26 ?_
 by_cases c1 : px < (97 : Int32)
 ·have c1i := c1
  simp only [Int32.lt_iff_toInt_lt, ← Int32.toInt_inj, Int32.reduceToInt] at c1i
  refine Ow.icmpT (pc' := 37) B e0_28 (tlt c1).1 ?_
  refine Ow.iloadN (pc' := 38) B e0_37 ?_
  refine Ow.bipush (pc' := 40) (x := 65) B e0_38 ?_
  by_cases c2 : px < (65 : Int32)
  ·have c2i := c2
   simp only [Int32.lt_iff_toInt_lt, ← Int32.toInt_inj, Int32.reduceToInt] at c2i
   refine Ow.icmpT (pc' := 49) B e0_40 (tlt c2).1 ?_
   refine Ow.iloadN (pc' := 50) B e0_49 ?_
   refine Ow.bipush (pc' := 52) (x := 48) B e0_50 ?_
   refine Ow.icmpF (pc' := 55) B e0_52 (flt ((by simp only [Int32.lt_iff_toInt_lt, ← Int32.toInt_inj, Int32.reduceToInt]; omega))).1 ?_
   refine Ow.iloadN (pc' := 56) B e0_55 ?_
   refine Ow.bipush (pc' := 58) (x := 57) B e0_56 ?_
   refine Ow.icmpF (pc' := 61) B e0_58 (flt ((by simp only [Int32.lt_iff_toInt_lt, ← Int32.toInt_inj, Int32.reduceToInt]; omega))).2.2.1 ?_
   refine Ow.iconst (pc' := 62) (x := 1) B e0_61 ?_
   refine Ow.goto (pc' := 66) B e0_62 ?_
   refine Ow.istoreN (pc' := 67) (Ls' := #[.val (.ref pa0), .val (.int pi), .val (.int px), .val (.int 1)]) B e0_66 ?_
   refine Ow.iloadN (pc' := 68) B e0_67 ?_
   refine Ow.ifT (pc' := 82) B e0_68 (by decide) ?_
   exact J _
  ·have c2i := c2
   simp only [Int32.lt_iff_toInt_lt, ← Int32.toInt_inj, Int32.reduceToInt] at c2i
   refine Ow.icmpF (pc' := 43) B e0_40 (flt c2).1 ?_
   refine Ow.iloadN (pc' := 44) B e0_43 ?_
   refine Ow.bipush (pc' := 46) (x := 90) B e0_44 ?_
   refine Ow.icmpT (pc' := 61) B e0_46 (flt ((by simp only [Int32.lt_iff_toInt_lt, ← Int32.toInt_inj, Int32.reduceToInt]; omega))).2.2.2 ?_
   refine Ow.iconst (pc' := 62) (x := 1) B e0_61 ?_
   refine Ow.goto (pc' := 66) B e0_62 ?_
   refine Ow.istoreN (pc' := 67) (Ls' := #[.val (.ref pa0), .val (.int pi), .val (.int px), .val (.int 1)]) B e0_66 ?_
   refine Ow.iloadN (pc' := 68) B e0_67 ?_
   refine Ow.ifT (pc' := 82) B e0_68 (by decide) ?_
   exact J _
 ·have c1i := c1
  simp only [Int32.lt_iff_toInt_lt, ← Int32.toInt_inj, Int32.reduceToInt] at c1i
  refine Ow.icmpF (pc' := 31) B e0_28 (flt c1).1 ?_
  refine Ow.iloadN (pc' := 32) B e0_31 ?_
  refine Ow.bipush (pc' := 34) (x := 122) B e0_32 ?_
  refine Ow.icmpT (pc' := 61) B e0_34 (flt ((by simp only [Int32.lt_iff_toInt_lt, ← Int32.toInt_inj, Int32.reduceToInt]; omega))).2.2.2 ?_
  refine Ow.iconst (pc' := 62) (x := 1) B e0_61 ?_
  refine Ow.goto (pc' := 66) B e0_62 ?_
  refine Ow.istoreN (pc' := 67) (Ls' := #[.val (.ref pa0), .val (.int pi), .val (.int px), .val (.int 1)]) B e0_66 ?_
  refine Ow.iloadN (pc' := 68) B e0_67 ?_
  refine Ow.ifT (pc' := 82) B e0_68 (by decide) ?_
  exact J _
set_option maxRecDepth 65536 in
set_option maxHeartbeats 40000000 in
theorem blk_al_b {l : Launch} {Z : State} {n0 : Nat} {a0 : Array Value} {p : Program} {e : Env} {R : Room} {s : State} {m : MethodId} {args : Array Value} {below : List Frame} {meth : Method} {c : ClassFile.Code} {Q : Ow.Po} {S : List Addr} {h : Heap} {k n : Nat} {ret' : Option FieldType} {nm' : String} (hw : Hw a0 Z) (B : Ow.Bdy p meth c Z EL1 a0 prog_28_method_5_code 4 ret' nm') {pa0 : Nat} {pi px pb : Int32} (hr : ¬ px < (0 : Int32) ∧ ¬ (65535 : Int32) < px) (hk : alP px) (J : ∀ b : Int32, Ow.Go p l e R s m args below meth c Z EL1 n0 "com/example/countersign/countersign/request/Header" Q S h k n 82 #[.val (.ref pa0), .val (.int pi), .val (.int px), .val (.int b)] []) :
  Ow.Go p l e R s m args below meth c Z EL1 n0 "com/example/countersign/countersign/request/Header" Q S h k n 25 #[.val (.ref pa0), .val (.int pi), .val (.int px), .val (.int pb)] [] := by
 have i0 := own_i0 hr.1
 have i1 := own_i1 hr.2
 unfold alP at hk
 refine Ow.iloadN (pc' := 26) B e0_25 ?_
 refine Ow.bipush (pc' := 28) (x := 97) B e0_26 ?_
 by_cases c1 : px < (97 : Int32)
 ·have c1i := c1
  simp only [Int32.lt_iff_toInt_lt, ← Int32.toInt_inj, Int32.reduceToInt] at c1i
  refine Ow.icmpT (pc' := 37) B e0_28 (tlt c1).1 ?_
  refine Ow.iloadN (pc' := 38) B e0_37 ?_
  refine Ow.bipush (pc' := 40) (x := 65) B e0_38 ?_
  by_cases c2 : px < (65 : Int32)
  ·have c2i := c2
   simp only [Int32.lt_iff_toInt_lt, ← Int32.toInt_inj, Int32.reduceToInt] at c2i
   refine Ow.icmpT (pc' := 49) B e0_40 (tlt c2).1 ?_
   refine Ow.iloadN (pc' := 50) B e0_49 ?_
   refine Ow.bipush (pc' := 52) (x := 48) B e0_50 ?_
   refine Ow.icmpF (pc' := 55) B e0_52 (flt ((by simp only [Int32.lt_iff_toInt_lt, ← Int32.toInt_inj, Int32.reduceToInt]; omega))).1 ?_
   refine Ow.iloadN (pc' := 56) B e0_55 ?_
   refine Ow.bipush (pc' := 58) (x := 57) B e0_56 ?_
   refine Ow.icmpF (pc' := 61) B e0_58 (flt ((by simp only [Int32.lt_iff_toInt_lt, ← Int32.toInt_inj, Int32.reduceToInt]; omega))).2.2.1 ?_
   refine Ow.iconst (pc' := 62) (x := 1) B e0_61 ?_
   refine Ow.goto (pc' := 66) B e0_62 ?_
   refine Ow.istoreN (pc' := 67) (Ls' := #[.val (.ref pa0), .val (.int pi), .val (.int px), .val (.int 1)]) B e0_66 ?_
   refine Ow.iloadN (pc' := 68) B e0_67 ?_
   refine Ow.ifT (pc' := 82) B e0_68 (by decide) ?_
   exact J _
  ·have c2i := c2
   simp only [Int32.lt_iff_toInt_lt, ← Int32.toInt_inj, Int32.reduceToInt] at c2i
   refine Ow.icmpF (pc' := 43) B e0_40 (flt c2).1 ?_
   refine Ow.iloadN (pc' := 44) B e0_43 ?_
   refine Ow.bipush (pc' := 46) (x := 90) B e0_44 ?_
   refine Ow.icmpT (pc' := 61) B e0_46 (flt ((by simp only [Int32.lt_iff_toInt_lt, ← Int32.toInt_inj, Int32.reduceToInt]; omega))).2.2.2 ?_
   refine Ow.iconst (pc' := 62) (x := 1) B e0_61 ?_
   refine Ow.goto (pc' := 66) B e0_62 ?_
   refine Ow.istoreN (pc' := 67) (Ls' := #[.val (.ref pa0), .val (.int pi), .val (.int px), .val (.int 1)]) B e0_66 ?_
   refine Ow.iloadN (pc' := 68) B e0_67 ?_
   refine Ow.ifT (pc' := 82) B e0_68 (by decide) ?_
   exact J _
 ·have c1i := c1
  simp only [Int32.lt_iff_toInt_lt, ← Int32.toInt_inj, Int32.reduceToInt] at c1i
  refine Ow.icmpF (pc' := 31) B e0_28 (flt c1).1 ?_
  refine Ow.iloadN (pc' := 32) B e0_31 ?_
  refine Ow.bipush (pc' := 34) (x := 122) B e0_32 ?_
  refine Ow.icmpT (pc' := 61) B e0_34 (flt ((by simp only [Int32.lt_iff_toInt_lt, ← Int32.toInt_inj, Int32.reduceToInt]; omega))).2.2.2 ?_
  refine Ow.iconst (pc' := 62) (x := 1) B e0_61 ?_
  refine Ow.goto (pc' := 66) B e0_62 ?_
  refine Ow.istoreN (pc' := 67) (Ls' := #[.val (.ref pa0), .val (.int pi), .val (.int px), .val (.int 1)]) B e0_66 ?_
  refine Ow.iloadN (pc' := 68) B e0_67 ?_
  refine Ow.ifT (pc' := 82) B e0_68 (by decide) ?_
  exact J _
set_option maxRecDepth 65536 in
set_option maxHeartbeats 40000000 in
theorem blk_no_u {l : Launch} {Z : State} {n0 : Nat} {a0 : Array Value} {p : Program} {e : Env} {R : Room} {s : State} {m : MethodId} {args : Array Value} {below : List Frame} {meth : Method} {c : ClassFile.Code} {Q : Ow.Po} {S : List Addr} {h : Heap} {k n : Nat} {ret' : Option FieldType} {nm' : String} (hw : Hw a0 Z) (B : Ow.Bdy p meth c Z EL1 a0 prog_28_method_5_code 4 ret' nm') {pa0 : Nat} {pi px pb : Int32} (hr : ¬ px < (0 : Int32) ∧ ¬ (65535 : Int32) < px) (hk : ¬ alP px) (J : ∀ b : Int32, Ow.Go p l e R s m args below meth c Z EL1 n0 "com/example/countersign/countersign/request/Header" Q S h k n 71 #[.val (.ref pa0), .val (.int pi), .val (.int px), .val (.int b)] []) :
  Ow.Go p l e R s m args below meth c Z EL1 n0 "com/example/countersign/countersign/request/Header" Q S h k n 25 #[.val (.ref pa0), .val (.int pi), .val (.int px), .unset] [] := by
 have i0 := own_i0 hr.1
 have i1 := own_i1 hr.2
 unfold alP at hk
 refine Ow.iloadN (pc' := 26) B e0_25 ?_
 refine Ow.bipush (pc' := 28) (x := 97) B e0_26 ?_
 by_cases c1 : px < (97 : Int32)
 ·have c1i := c1
  simp only [Int32.lt_iff_toInt_lt, ← Int32.toInt_inj, Int32.reduceToInt] at c1i
  refine Ow.icmpT (pc' := 37) B e0_28 (tlt c1).1 ?_
  refine Ow.iloadN (pc' := 38) B e0_37 ?_
  refine Ow.bipush (pc' := 40) (x := 65) B e0_38 ?_
  by_cases c2 : px < (65 : Int32)
  ·have c2i := c2
   simp only [Int32.lt_iff_toInt_lt, ← Int32.toInt_inj, Int32.reduceToInt] at c2i
   refine Ow.icmpT (pc' := 49) B e0_40 (tlt c2).1 ?_
   refine Ow.iloadN (pc' := 50) B e0_49 ?_
   refine Ow.bipush (pc' := 52) (x := 48) B e0_50 ?_
   by_cases c3 : px < (48 : Int32)
   ·have c3i := c3
    simp only [Int32.lt_iff_toInt_lt, ← Int32.toInt_inj, Int32.reduceToInt] at c3i
    refine Ow.icmpT (pc' := 65) B e0_52 (tlt c3).1 ?_
    refine Ow.iconst (pc' := 66) (x := 0) B e0_65 ?_
    refine Ow.istoreN (pc' := 67) (Ls' := #[.val (.ref pa0), .val (.int pi), .val (.int px), .val (.int 0)]) B e0_66 ?_
    refine Ow.iloadN (pc' := 68) B e0_67 ?_
    refine Ow.ifF (pc' := 71) B e0_68 (by decide) ?_
    exact J _
   ·have c3i := c3
    simp only [Int32.lt_iff_toInt_lt, ← Int32.toInt_inj, Int32.reduceToInt] at c3i
    refine Ow.icmpF (pc' := 55) B e0_52 (flt c3).1 ?_
    refine Ow.iloadN (pc' := 56) B e0_55 ?_
    refine Ow.bipush (pc' := 58) (x := 57) B e0_56 ?_
    refine Ow.icmpT (pc' := 65) B e0_58 (tlt ((by simp only [Int32.lt_iff_toInt_lt, ← Int32.toInt_inj, Int32.reduceToInt]; omega))).2.2.1 ?_
    refine Ow.iconst (pc' := 66) (x := 0) B e0_65 ?_
    refine Ow.istoreN (pc' := 67) (Ls' := #[.val (.ref pa0), .val (.int pi), .val (.int px), .val (.int 0)]) B e0_66 ?_
    refine Ow.iloadN (pc' := 68) B e0_67 ?_
    refine Ow.ifF (pc' := 71) B e0_68 (by decide) ?_
    exact J _
  ·have c2i := c2
   simp only [Int32.lt_iff_toInt_lt, ← Int32.toInt_inj, Int32.reduceToInt] at c2i
   refine Ow.icmpF (pc' := 43) B e0_40 (flt c2).1 ?_
   refine Ow.iloadN (pc' := 44) B e0_43 ?_
   refine Ow.bipush (pc' := 46) (x := 90) B e0_44 ?_
   refine Ow.icmpF (pc' := 49) B e0_46 (tlt ((by simp only [Int32.lt_iff_toInt_lt, ← Int32.toInt_inj, Int32.reduceToInt]; omega))).2.2.2 ?_
   refine Ow.iloadN (pc' := 50) B e0_49 ?_
   refine Ow.bipush (pc' := 52) (x := 48) B e0_50 ?_
   refine Ow.icmpF (pc' := 55) B e0_52 (flt ((by simp only [Int32.lt_iff_toInt_lt, ← Int32.toInt_inj, Int32.reduceToInt]; omega))).1 ?_
   refine Ow.iloadN (pc' := 56) B e0_55 ?_
   refine Ow.bipush (pc' := 58) (x := 57) B e0_56 ?_
   refine Ow.icmpT (pc' := 65) B e0_58 (tlt ((by simp only [Int32.lt_iff_toInt_lt, ← Int32.toInt_inj, Int32.reduceToInt]; omega))).2.2.1 ?_
   refine Ow.iconst (pc' := 66) (x := 0) B e0_65 ?_
   refine Ow.istoreN (pc' := 67) (Ls' := #[.val (.ref pa0), .val (.int pi), .val (.int px), .val (.int 0)]) B e0_66 ?_
   refine Ow.iloadN (pc' := 68) B e0_67 ?_
   refine Ow.ifF (pc' := 71) B e0_68 (by decide) ?_
   exact J _
 ·have c1i := c1
  simp only [Int32.lt_iff_toInt_lt, ← Int32.toInt_inj, Int32.reduceToInt] at c1i
  refine Ow.icmpF (pc' := 31) B e0_28 (flt c1).1 ?_
  refine Ow.iloadN (pc' := 32) B e0_31 ?_
  refine Ow.bipush (pc' := 34) (x := 122) B e0_32 ?_
  refine Ow.icmpF (pc' := 37) B e0_34 (tlt ((by simp only [Int32.lt_iff_toInt_lt, ← Int32.toInt_inj, Int32.reduceToInt]; omega))).2.2.2 ?_
  refine Ow.iloadN (pc' := 38) B e0_37 ?_
  refine Ow.bipush (pc' := 40) (x := 65) B e0_38 ?_
  refine Ow.icmpF (pc' := 43) B e0_40 (flt ((by simp only [Int32.lt_iff_toInt_lt, ← Int32.toInt_inj, Int32.reduceToInt]; omega))).1 ?_
  refine Ow.iloadN (pc' := 44) B e0_43 ?_
  refine Ow.bipush (pc' := 46) (x := 90) B e0_44 ?_
  refine Ow.icmpF (pc' := 49) B e0_46 (tlt ((by simp only [Int32.lt_iff_toInt_lt, ← Int32.toInt_inj, Int32.reduceToInt]; omega))).2.2.2 ?_
  refine Ow.iloadN (pc' := 50) B e0_49 ?_
  refine Ow.bipush (pc' := 52) (x := 48) B e0_50 ?_
  refine Ow.icmpF (pc' := 55) B e0_52 (flt ((by simp only [Int32.lt_iff_toInt_lt, ← Int32.toInt_inj, Int32.reduceToInt]; omega))).1 ?_
  refine Ow.iloadN (pc' := 56) B e0_55 ?_
  refine Ow.bipush (pc' := 58) (x := 57) B e0_56 ?_
  refine Ow.icmpT (pc' := 65) B e0_58 (tlt ((by simp only [Int32.lt_iff_toInt_lt, ← Int32.toInt_inj, Int32.reduceToInt]; omega))).2.2.1 ?_
  refine Ow.iconst (pc' := 66) (x := 0) B e0_65 ?_
  refine Ow.istoreN (pc' := 67) (Ls' := #[.val (.ref pa0), .val (.int pi), .val (.int px), .val (.int 0)]) B e0_66 ?_
  refine Ow.iloadN (pc' := 68) B e0_67 ?_
  refine Ow.ifF (pc' := 71) B e0_68 (by decide) ?_
  exact J _
set_option maxRecDepth 65536 in
set_option maxHeartbeats 40000000 in
theorem blk_no_b {l : Launch} {Z : State} {n0 : Nat} {a0 : Array Value} {p : Program} {e : Env} {R : Room} {s : State} {m : MethodId} {args : Array Value} {below : List Frame} {meth : Method} {c : ClassFile.Code} {Q : Ow.Po} {S : List Addr} {h : Heap} {k n : Nat} {ret' : Option FieldType} {nm' : String} (hw : Hw a0 Z) (B : Ow.Bdy p meth c Z EL1 a0 prog_28_method_5_code 4 ret' nm') {pa0 : Nat} {pi px pb : Int32} (hr : ¬ px < (0 : Int32) ∧ ¬ (65535 : Int32) < px) (hk : ¬ alP px) (J : ∀ b : Int32, Ow.Go p l e R s m args below meth c Z EL1 n0 "com/example/countersign/countersign/request/Header" Q S h k n 71 #[.val (.ref pa0), .val (.int pi), .val (.int px), .val (.int b)] []) :
  Ow.Go p l e R s m args below meth c Z EL1 n0 "com/example/countersign/countersign/request/Header" Q S h k n 25 #[.val (.ref pa0), .val (.int pi), .val (.int px), .val (.int pb)] [] := by
 have i0 := own_i0 hr.1
 have i1 := own_i1 hr.2
 unfold alP at hk
 refine Ow.iloadN (pc' := 26) B e0_25 ?_
 refine Ow.bipush (pc' := 28) (x := 97) B e0_26 ?_
 by_cases c1 : px < (97 : Int32)
 ·have c1i := c1
  simp only [Int32.lt_iff_toInt_lt, ← Int32.toInt_inj, Int32.reduceToInt] at c1i
  refine Ow.icmpT (pc' := 37) B e0_28 (tlt c1).1 ?_
  refine Ow.iloadN (pc' := 38) B e0_37 ?_
  refine Ow.bipush (pc' := 40) (x := 65) B e0_38 ?_
  by_cases c2 : px < (65 : Int32)
  ·have c2i := c2
   simp only [Int32.lt_iff_toInt_lt, ← Int32.toInt_inj, Int32.reduceToInt] at c2i
   refine Ow.icmpT (pc' := 49) B e0_40 (tlt c2).1 ?_
   refine Ow.iloadN (pc' := 50) B e0_49 ?_
   refine Ow.bipush (pc' := 52) (x := 48) B e0_50 ?_
   by_cases c3 : px < (48 : Int32)
   ·have c3i := c3
    simp only [Int32.lt_iff_toInt_lt, ← Int32.toInt_inj, Int32.reduceToInt] at c3i
    refine Ow.icmpT (pc' := 65) B e0_52 (tlt c3).1 ?_
    refine Ow.iconst (pc' := 66) (x := 0) B e0_65 ?_
    refine Ow.istoreN (pc' := 67) (Ls' := #[.val (.ref pa0), .val (.int pi), .val (.int px), .val (.int 0)]) B e0_66 ?_
    refine Ow.iloadN (pc' := 68) B e0_67 ?_
    refine Ow.ifF (pc' := 71) B e0_68 (by decide) ?_
    exact J _
   ·have c3i := c3
    simp only [Int32.lt_iff_toInt_lt, ← Int32.toInt_inj, Int32.reduceToInt] at c3i
    refine Ow.icmpF (pc' := 55) B e0_52 (flt c3).1 ?_
    refine Ow.iloadN (pc' := 56) B e0_55 ?_
    refine Ow.bipush (pc' := 58) (x := 57) B e0_56 ?_
    refine Ow.icmpT (pc' := 65) B e0_58 (tlt ((by simp only [Int32.lt_iff_toInt_lt, ← Int32.toInt_inj, Int32.reduceToInt]; omega))).2.2.1 ?_
    refine Ow.iconst (pc' := 66) (x := 0) B e0_65 ?_
    refine Ow.istoreN (pc' := 67) (Ls' := #[.val (.ref pa0), .val (.int pi), .val (.int px), .val (.int 0)]) B e0_66 ?_
    refine Ow.iloadN (pc' := 68) B e0_67 ?_
    refine Ow.ifF (pc' := 71) B e0_68 (by decide) ?_
    exact J _
  ·have c2i := c2
   simp only [Int32.lt_iff_toInt_lt, ← Int32.toInt_inj, Int32.reduceToInt] at c2i
   refine Ow.icmpF (pc' := 43) B e0_40 (flt c2).1 ?_
   refine Ow.iloadN (pc' := 44) B e0_43 ?_
   refine Ow.bipush (pc' := 46) (x := 90) B e0_44 ?_
   refine Ow.icmpF (pc' := 49) B e0_46 (tlt ((by simp only [Int32.lt_iff_toInt_lt, ← Int32.toInt_inj, Int32.reduceToInt]; omega))).2.2.2 ?_
   refine Ow.iloadN (pc' := 50) B e0_49 ?_
   refine Ow.bipush (pc' := 52) (x := 48) B e0_50 ?_
   refine Ow.icmpF (pc' := 55) B e0_52 (flt ((by simp only [Int32.lt_iff_toInt_lt, ← Int32.toInt_inj, Int32.reduceToInt]; omega))).1 ?_
   refine Ow.iloadN (pc' := 56) B e0_55 ?_
   refine Ow.bipush (pc' := 58) (x := 57) B e0_56 ?_
   refine Ow.icmpT (pc' := 65) B e0_58 (tlt ((by simp only [Int32.lt_iff_toInt_lt, ← Int32.toInt_inj, Int32.reduceToInt]; omega))).2.2.1 ?_
   refine Ow.iconst (pc' := 66) (x := 0) B e0_65 ?_
   refine Ow.istoreN (pc' := 67) (Ls' := #[.val (.ref pa0), .val (.int pi), .val (.int px), .val (.int 0)]) B e0_66 ?_
   refine Ow.iloadN (pc' := 68) B e0_67 ?_
   refine Ow.ifF (pc' := 71) B e0_68 (by decide) ?_
   exact J _
 ·have c1i := c1
  simp only [Int32.lt_iff_toInt_lt, ← Int32.toInt_inj, Int32.reduceToInt] at c1i
  refine Ow.icmpF (pc' := 31) B e0_28 (flt c1).1 ?_
  refine Ow.iloadN (pc' := 32) B e0_31 ?_
  refine Ow.bipush (pc' := 34) (x := 122) B e0_32 ?_
  refine Ow.icmpF (pc' := 37) B e0_34 (tlt ((by simp only [Int32.lt_iff_toInt_lt, ← Int32.toInt_inj, Int32.reduceToInt]; omega))).2.2.2 ?_
  refine Ow.iloadN (pc' := 38) B e0_37 ?_
  refine Ow.bipush (pc' := 40) (x := 65) B e0_38 ?_
  refine Ow.icmpF (pc' := 43) B e0_40 (flt ((by simp only [Int32.lt_iff_toInt_lt, ← Int32.toInt_inj, Int32.reduceToInt]; omega))).1 ?_
  refine Ow.iloadN (pc' := 44) B e0_43 ?_
  refine Ow.bipush (pc' := 46) (x := 90) B e0_44 ?_
  refine Ow.icmpF (pc' := 49) B e0_46 (tlt ((by simp only [Int32.lt_iff_toInt_lt, ← Int32.toInt_inj, Int32.reduceToInt]; omega))).2.2.2 ?_
  refine Ow.iloadN (pc' := 50) B e0_49 ?_
  refine Ow.bipush (pc' := 52) (x := 48) B e0_50 ?_
  refine Ow.icmpF (pc' := 55) B e0_52 (flt ((by simp only [Int32.lt_iff_toInt_lt, ← Int32.toInt_inj, Int32.reduceToInt]; omega))).1 ?_
  refine Ow.iloadN (pc' := 56) B e0_55 ?_
  refine Ow.bipush (pc' := 58) (x := 57) B e0_56 ?_
  refine Ow.icmpT (pc' := 65) B e0_58 (tlt ((by simp only [Int32.lt_iff_toInt_lt, ← Int32.toInt_inj, Int32.reduceToInt]; omega))).2.2.1 ?_
  refine Ow.iconst (pc' := 66) (x := 0) B e0_65 ?_
  refine Ow.istoreN (pc' := 67) (Ls' := #[.val (.ref pa0), .val (.int pi), .val (.int px), .val (.int 0)]) B e0_66 ?_
  refine Ow.iloadN (pc' := 68) B e0_67 ?_
  refine Ow.ifF (pc' := 71) B e0_68 (by decide) ?_
  exact J _
set_option maxRecDepth 65536 in
set_option maxHeartbeats 40000000 in
theorem con_init_1 (hw : Hw a0 Z) (G : Ow.Glo Z cz sf) (GS : GlS Z) {pa0 : Nat} {pa1 : Nat} {h0 : Heap} (O0 : Old Z n0 h0) (hf0 : Exa Z h0 pa0 "java/lang/String") (hf1 : Fld Z h0 pa0 "java/lang/String" "coder" "B" (.int 0)) (hf2 : Fld Z h0 pa0 "java/lang/String" "value" "[B" .null) (hn0 : n0 ≤ pa0) :
    Ow.Con l Z EL1 n0 my0 jdk_42_method_149_code 6 (Option.none : Option Jvm.ClassFile.FieldType) [] ({ frames := 1, cells := 4, slots := 8, locals := 12 } : Room) #[(.ref pa0), (.ref pa1), (.int 0), (.int 0), .null] [pa0] h0 (fun v h S' => (∃ r0 : Nat, ∃ k0 : ClassId, v = none ∧ Keep h0 h [pa0] ∧ Ow.Chs Z h pa0 r0 k0 [] ∧ S' = [])) := by
 refine Ow.Con.enter (Ls := #[.val (.ref pa0), .val (.ref pa1), .val (.int 0), .val (.int 0), .val .null, .unset]) (plainFor_of_name pn1) O0 (hEW hw) (hSA hw) ?_
 intro p e s m below meth c B
 have z0 := Ow.old_le O0
 have lpa0 : (pa0 : Nat) < h0.size := hf0.lt
 refine Ow.aloadN (pc' := 1) B e3_0 ?_
 refine Ow.objInit (pc' := 4) (W := 0) B e3_1 (w17 hw) (w18 hw) (w19 hw) ?_
 refine Ow.iloadN (pc' := 5) B e3_4 ?_
 refine Ow.ifF (pc' := 8) B e3_5 (by decide) ?_
 refine Ow.aloadN (pc' := 9) B e3_8 ?_
 refine Ow.ldcText (pc' := 11) (k' := 2) (n' := 4) (nn := 0) (vs := []) (z := 0) B e3_9 (w20 hw) (by decide) ⟨by decide, by decide⟩ (by decide) (by decide) ?_
 intro h2 a1 t3 kt3 Kh2 Ea1 Ca1 Va1 At3 Na1
 have zh2 := Kh2.1
 have la1 : (a1 : Nat) < h2.size := Ea1.lt
 have lt3 : (t3 : Nat) < h2.size := At3.lt
 have n4 : (pa0 : Nat) ≠ a1 ∧ (pa0 : Nat) ≠ t3 := Na1 pa0 (by simp)
 refine Ow.getfield (pc' := 14) B e3_11 (w26 hw) Via.refl Va1 ?_
 have f5 := hf2.keep Kh2 Ow.nin0
 have f6 := hf0.keep Kh2
 refine Ow.putfield (pc' := 17) (ty := (.array .byte)) B e3_14 (w26 hw) Via.refl f5 f6 (Or.inr ⟨(w22 hw), rfl, rfl⟩) (w7 hw) (Or.inl (by simp)) ?_
 intro h7 Wh7
 have f8 := hf1.keep Kh2 Ow.nin0
 have Kh7 := Keep.of_wr Wh7
 have zh7 := Kh7.1
 have f9 : Fld Z h7 pa0 "java/lang/String" "value" "[B" (.ref t3) := f5.same Wh7
 have f10 : Fld Z h7 pa0 "java/lang/String" "coder" "B" (.int 0) := f8.other Wh7 (Or.inr (slot_ne (a0 := a0) (C := "java/lang/String") (t := .byte) (t' := (.array .byte)) (Or.inr (w23 hw)) (Or.inr (w22 hw)) (by decide) (by decide) (by decide)))
 refine Ow.aloadN (pc' := 18) B e3_17 ?_
 refine Ow.ldcText (pc' := 20) (k' := 4) (n' := 8) (nn := 0) (vs := []) (z := 0) B e3_18 (w20 hw) (by decide) ⟨by decide, by decide⟩ (by decide) (by decide) ?_
 intro h12 a11 t13 kt13 Kh12 Ea11 Ca11 Va11 At13 Na11
 have zh12 := Kh12.1
 have la11 : (a11 : Nat) < h12.size := Ea11.lt
 have lt13 : (t13 : Nat) < h12.size := At13.lt
 have n14 : (pa0 : Nat) ≠ a11 ∧ (pa0 : Nat) ≠ t13 := Na11 pa0 (by simp)
 refine Ow.getfield (pc' := 23) B e3_20 (w27 hw) Via.refl Ca11 ?_
 have f15 := f10.keep Kh12 Ow.nin0
 have f16 := f6.keep Kh7
 have f17 := f16.keep Kh12
 refine Ow.putfield (pc' := 26) (ty := .byte) B e3_23 (w27 hw) Via.refl f15 f17 (Or.inr ⟨(w23 hw), rfl, rfl⟩) (w7 hw) (Or.inl (by simp)) ?_
 intro h18 Wh18
 have f19 := f9.keep Kh12 Ow.nin0
 have Kh18 := Keep.of_wr Wh18
 have zh18 := Kh18.1
 have f20 : Fld Z h18 pa0 "java/lang/String" "coder" "B" (.int 0) := f15.same Wh18
 have f21 : Fld Z h18 pa0 "java/lang/String" "value" "[B" (.ref t3) := f19.other Wh18 (Or.inr (slot_ne (a0 := a0) (C := "java/lang/String") (t := (.array .byte)) (t' := .byte) (Or.inr (w22 hw)) (Or.inr (w23 hw)) (by decide) (by decide) (by decide)))
 have f22 := f17.keep Kh18
 have f23 := At3.keep Kh7 (Ow.ninS (by omega) Ow.nin0)
 have f24 := f23.keep Kh12 Ow.nin0
 have f25 := f24.keep Kh18 (Ow.ninS (by omega) Ow.nin0)
 have s26 : Ow.Chs Z h18 pa0 t3 kt3 [] := ⟨f22, f21, (fun _ q => nomatch q), Or.inl ⟨f20, f25, (fun _ q => nomatch q)⟩⟩
 exact Ow.retV (S' := []) B e3_26 (⟨t3, kt3, rfl, (((((Keep.refl _ [pa0]).trans Kh2 (fun _ q => nomatch q)).trans Kh7 (allS (Or.inl (by simp)) all0)).trans Kh12 (fun _ q => nomatch q)).trans Kh18 (allS (Or.inl (by simp)) all0)), s26, rfl⟩)
set_option maxRecDepth 65536 in
set_option maxHeartbeats 40000000 in
theorem con_init_2 (hw : Hw a0 Z) (G : Ow.Glo Z cz sf) (GS : GlS Z) {pa0 : Nat} {pa1 : Nat} {pk0 : ClassId} {h0 : Heap} (O0 : Old Z n0 h0) (hf0 : Exa Z h0 pa0 "java/lang/String") (hf1 : Fld Z h0 pa0 "java/lang/String" "coder" "B" (.int 0)) (hf2 : Fld Z h0 pa0 "java/lang/String" "value" "[B" .null) (hf3 : Arv Z h0 pa1 pk0 .char (0 : Int32) [] (.int 0)) (hn0 : n0 ≤ pa0) (hn1 : n0 ≤ pa1) :
    Ow.Con l Z EL1 n0 my1 jdk_42_method_3_code 2 (Option.none : Option Jvm.ClassFile.FieldType) [] ({ frames := 2, cells := 4, slots := 8, locals := 29 } : Room) #[(.ref pa0), (.ref pa1)] [pa0] h0 (fun v h S' => (∃ r0 : Nat, ∃ k0 : ClassId, v = none ∧ Keep h0 h [pa0] ∧ Ow.Chs Z h pa0 r0 k0 [] ∧ S' = [])) := by
 refine Ow.Con.enter (Ls := #[.val (.ref pa0), .val (.ref pa1)]) (plainFor_of_name pn1) O0 (hEW hw) (hSA hw) ?_
 intro p e s m below meth c B
 have z0 := Ow.old_le O0
 have lpa0 : (pa0 : Nat) < h0.size := hf0.lt
 have lpa1 : (pa1 : Nat) < h0.size := hf3.lt
 refine Ow.aloadN (pc' := 1) B e2_0 ?_
 refine Ow.aloadN (pc' := 2) B e2_1 ?_
 refine Ow.iconst (pc' := 3) (x := 0) B e2_2 ?_
 refine Ow.aloadN (pc' := 4) B e2_3 ?_
 refine Ow.arrlen (pc' := 5) B e2_4 hf3 ?_
 refine Ow.aconstNull (pc' := 6) B e2_5 ?_
 refine Ow.Go.old (fun o1 => ?_)
 refine Ow.callInit (pc' := 9) (W := 0) (k' := 4) (n' := 8) (argsL := [(.ref pa1), (.int 0), (.int 0), .null]) (rest := []) B e2_6 (w13 hw) (w14 hw) (w8 hw) (w16 hw) (con_init_1 hw G GS (pa0 := pa0) (pa1 := pa1) o1 hf0 hf1 hf2 (by omega)) pd0 ?_
 intro vq2 h3 S4 q2 zh3
 obtain ⟨r5, k6, rfl, Kh3, f7, rfl⟩ := q2
 have lr5 : (r5 : Nat) < h3.size := f7.ltt
 refine Ow.Go.nr (S' := [pa0]) (st' := []) ?_
 exact Ow.retV (S' := []) B e2_9 (⟨r5, k6, rfl, ((Keep.refl _ [pa0]).trans Kh3 (allS (Or.inl (by simp)) all0)), f7, rfl⟩)
set_option maxRecDepth 65536 in
set_option maxHeartbeats 40000000 in
theorem con_make_3 (hw : Hw a0 Z) (G : Ow.Glo Z cz sf) (GS : GlS Z) {px0 : Int32} {px1 : Int32} {px2 : Int32} {px3 : Int32} {h0 : Heap} (O0 : Old Z n0 h0) (hc_px0 : nar .char px0 = px0) (hc_px1 : nar .char px1 = px1) (hc_px2 : nar .char px2 = px2) (hc_px3 : nar .char px3 = px3) :
    Ow.Con l Z EL1 n0 my2 method_4_code 6 (Option.some (Jvm.ClassFile.FieldType.object "java/lang/String")) [] ({ frames := 3, cells := 6, slots := 12, locals := 43 } : Room) #[(.int 0), (.int px0), (.int px1), (.int px2), (.int px3)] [] h0 (fun v h S' => (∃ r0 : Nat, ∃ r1 : Nat, ∃ k0 : ClassId, v = some (.ref r0) ∧ Keep h0 h [] ∧ h0.size ≤ r0 ∧ Ow.Chs Z h r0 r1 k0 [] ∧ S' = [])) := by
 refine Ow.Con.enter (Ls := #[.val (.int 0), .val (.int px0), .val (.int px1), .val (.int px2), .val (.int px3), .unset]) (plainFor_of_name pn0) O0 (hEW hw) (hSA hw) ?_
 intro p e s m below meth c B
 have z0 := Ow.old_le O0
 refine Ow.iloadN (pc' := 1) B e1_0 ?_
 refine Ow.ifF (pc' := 4) B e1_1 (by decide) ?_
 refine Ow.newObj (pc' := 7) (k' := 1) (n' := 4) B e1_4 (w6 hw) (w7 hw) (w8 hw) ?_
 intro h2 a1 ga1 ba1 Kh2 Aa1 Da1
 have zh2 := Kh2.1
 have la1 : (a1 : Nat) < h2.size := Aa1.lt
 have f3 : Fld Z h2 a1 "java/lang/String" "value" "[B" .null := Da1 (Or.inr (w22 hw)) (ty := (.array .byte)) (by decide)
 have f4 : Fld Z h2 a1 "java/lang/String" "coder" "B" (.int 0) := Da1 (Or.inr (w23 hw)) (ty := .byte) (by decide)
 refine Ow.dup (pc' := 8) B e1_7 ?_
 refine Ow.iconst (pc' := 9) (x := 0) B e1_8 ?_
 refine Ow.newArr (pc' := 11) (k' := 2) (n' := 4) (cap := 0) B e1_9 (w9 hw) (by decide) (by decide) ?_
 intro h6 a5 ka5 ga5 ba5 Kh6 V0a5
 have zh6 := Kh6.1
 have la5 : (a5 : Nat) < h6.size := V0a5.lt
 have Va5 : Arv Z h6 a5 ka5 .char (0 : Int32) [] (.int 0) := V0a5.pad (pad_rep [] (.int 0) 0)
 refine Ow.Go.old (fun o7 => ?_)
 have f8 := Aa1.keep Kh6
 have f9 := f4.keep Kh6 Ow.nin0
 have f10 := f3.keep Kh6 Ow.nin0
 refine Ow.callInit (pc' := 14) (W := 1) (k' := 6) (n' := 12) (argsL := [(.ref a5)]) (rest := [(.ref a1)]) B e1_11 (w10 hw) (w11 hw) (w8 hw) (w12 hw) (con_init_2 hw G GS (pa0 := a1) (pa1 := a5) (pk0 := ka5) o7 f8 f9 f10 Va5 (by omega) (by omega)) pd1 ?_
 intro vq11 h12 S13 q11 zh12
 obtain ⟨r14, k15, rfl, Kh12, f16, rfl⟩ := q11
 have lr14 : (r14 : Nat) < h12.size := f16.ltt
 refine Ow.Go.nr (S' := [a5, a1]) (st' := [(.ref a1)]) ?_
 exact Ow.retA (S' := []) (t := (.object "java/lang/String")) B e1_14 (⟨a1, r14, k15, rfl, ((((Keep.refl _ []).trans Kh2 (fun _ q => nomatch q)).trans Kh6 (fun _ q => nomatch q)).trans Kh12 (allS (Or.inr (by omega)) all0)), (by omega), f16, rfl⟩)
set_option maxRecDepth 65536 in
set_option maxHeartbeats 40000000 in
theorem con_isEmpty_4 (hw : Hw a0 Z) (G : Ow.Glo Z cz sf) (GS : GlS Z) {pa0 : Nat} {pa1 : Nat} {pk0 : ClassId} {h0 : Heap} (O0 : Old Z n0 h0) (hf0 : Ow.Chs Z h0 pa0 pa1 pk0 []) (hn0 : n0 ≤ pa0) :
    Ow.Con l Z EL1 n0 my3 jdk_42_method_55_code 1 (Option.some Jvm.ClassFile.FieldType.boolean) [] ({ frames := 0, cells := 0, slots := 0, locals := 0 } : Room) #[(.ref pa0)] [] h0 (fun v h S' => (v = some (.int 1) ∧ h = h0 ∧ S' = [])) := by
 rcases hf0.2.2.2 with ⟨oc_hf0, oa_hf0, ol_hf0⟩ | ⟨oc_hf0, oa_hf0, ou_hf0⟩
 ·refine Ow.Con.enter (Ls := #[.val (.ref pa0)]) (plainFor_of_name pn1) O0 (hEW hw) (hSA hw) ?_
  intro p e s m below meth c B
  have z0 := Ow.old_le O0
  have oE_hf0 := hf0.1
  have oV_hf0 := hf0.2.1
  have oR_hf0 := hf0.2.2.1
  have oA_hf0 : Arv Z h0 pa1 pk0 .byte (0 : Int32) [] (.int 0) := oa_hf0
  have lpa0 : (pa0 : Nat) < h0.size := hf0.lt
  have lpa1 : (pa1 : Nat) < h0.size := oA_hf0.lt
  have lpa1 : (pa1 : Nat) < h0.size := hf0.ltt
  refine Ow.aloadN (pc' := 1) B e4_0 ?_
  refine Ow.getfield (pc' := 4) B e4_1 (w26 hw) Via.refl oV_hf0 ?_
  refine Ow.arrlen (pc' := 5) B e4_4 oA_hf0 ?_
  refine Ow.ifF (pc' := 8) B e4_5 (by decide) ?_
  refine Ow.iconst (pc' := 9) (x := 1) B e4_8 ?_
  refine Ow.goto (pc' := 13) B e4_9 ?_
  exact Ow.retI (S' := []) (t := .boolean) B e4_13 (⟨rfl, rfl, rfl⟩)
 ·refine Ow.Con.enter (Ls := #[.val (.ref pa0)]) (plainFor_of_name pn1) O0 (hEW hw) (hSA hw) ?_
  intro p e s m below meth c B
  have z0 := Ow.old_le O0
  have oE_hf0 := hf0.1
  have oV_hf0 := hf0.2.1
  have oR_hf0 := hf0.2.2.1
  have oA_hf0 : Arv Z h0 pa1 pk0 .byte (0 : Int32) [] (.int 0) := oa_hf0
  have lpa0 : (pa0 : Nat) < h0.size := hf0.lt
  have lpa1 : (pa1 : Nat) < h0.size := oA_hf0.lt
  have lpa1 : (pa1 : Nat) < h0.size := hf0.ltt
  refine Ow.aloadN (pc' := 1) B e4_0 ?_
  refine Ow.getfield (pc' := 4) B e4_1 (w26 hw) Via.refl oV_hf0 ?_
  refine Ow.arrlen (pc' := 5) B e4_4 oA_hf0 ?_
  refine Ow.ifF (pc' := 8) B e4_5 (by decide) ?_
  refine Ow.iconst (pc' := 9) (x := 1) B e4_8 ?_
  refine Ow.goto (pc' := 13) B e4_9 ?_
  exact Ow.retI (S' := []) (t := .boolean) B e4_13 (⟨rfl, rfl, rfl⟩)
set_option maxRecDepth 65536 in
set_option maxHeartbeats 40000000 in
theorem con_isToken_5 (hw : Hw a0 Z) (G : Ow.Glo Z cz sf) (GS : GlS Z) {pa0 : Nat} {pa1 : Nat} {pk0 : ClassId} {h0 : Heap} (O0 : Old Z n0 h0) (hf0 : Ow.Chs Z h0 pa0 pa1 pk0 []) (hn0 : n0 ≤ pa0) :
    Ow.Con l Z EL1 n0 my4 prog_28_method_5_code 4 (Option.some Jvm.ClassFile.FieldType.boolean) [] ({ frames := 1, cells := 0, slots := 0, locals := 12 } : Room) #[(.ref pa0)] [] h0 (fun v h S' => (v = some (.int 0) ∧ h = h0 ∧ S' = [])) := by
 refine Ow.Con.enter (Ls := #[.val (.ref pa0), .unset, .unset, .unset]) (plainFor_of_name pn2) O0 (hEW hw) (hSA hw) ?_
 intro p e s m below meth c B
 have z0 := Ow.old_le O0
 have lpa0 : (pa0 : Nat) < h0.size := hf0.lt
 have lpa1 : (pa1 : Nat) < h0.size := hf0.ltt
 refine Ow.aloadN (pc' := 1) B e0_0 ?_
 refine Ow.Go.old (fun o1 => ?_)
 refine Ow.callVirtual (pc' := 4) (W := 0) (k' := 0) (n' := 0) (argsL := []) (rest := []) (K := "java/lang/String") B e0_1 (w32 hw) (w33 hw) (w35 hw) (w35 hw) (w34 hw) (w8 hw) (w36 hw) (hf0).1 (con_isEmpty_4 hw G GS (pa0 := pa0) (pa1 := pa1) (pk0 := pk0) o1 hf0 (by omega)) pd3 ?_
 intro vq2 h3 S4 q2 zh3
 obtain ⟨rfl, rfl, rfl⟩ := q2
 refine Ow.Go.nr (S' := []) (st' := [(.int 1)]) ?_
 refine Ow.ifF (pc' := 7) B e0_4 (by decide) ?_
 refine Ow.iconst (pc' := 8) (x := 0) B e0_7 ?_
 exact Ow.retI (S' := []) (t := .boolean) B e0_8 (⟨rfl, rfl, rfl⟩)
set_option maxRecDepth 65536 in
set_option maxHeartbeats 40000000 in
theorem seg132_1 (hw : Hw a0 Z) (G : Ow.Glo Z cz sf) (GS : GlS Z) {pa0 : Nat} {pa1 : Nat} {pk0 : ClassId} {dl0 : Int32} {dl1 : Int32} {dl2 : Int32} {dl3 : Int32} {dl4 : Int32} {dl5 : Int32} {dl6 : Int32} {dl7 : Int32} {dl8 : Int32} {dl9 : Int32} {p : Program} {e : Env} {s : State} {m : MethodId} {args : Array Value} {below : List Frame} {meth : Method} {c : ClassFile.Code} (B : Ow.Bdy p meth c Z EL1 a0 code maxLocals ret x.name) {h0 : Heap} (O0 : Old Z n0 h0) (hf0 : Ow.Chs Z h0 pa0 pa1 pk0 []) (hn0 : n0 ≤ pa0) :
  Ow.Go p l e room_1 s m args below meth c Z EL1 n0 x.cls (fun v _ _ => v = some (.int 1)) [] h0 24 2176 132 #[.val (.int dl0), .val (.int dl1), .val (.int dl2), .val (.int dl3), .val (.int dl4), .val (.int dl5), .val (.int dl6), .val (.int dl7), .val (.int dl8), .val (.int dl9), .val (.ref pa0), .val (.int 0)] [] := by
 have z0 := Ow.old_le O0
 have lpa0 : (pa0 : Nat) < h0.size := hf0.lt
 have lpa1 : (pa1 : Nat) < h0.size := hf0.ltt
 refine Ow.aload (pc' := 134) B at_132 ?_
 refine Ow.Go.old (fun o1 => ?_)
 refine Ow.callStatic (pc' := 137) (W := 0) (k' := 24) (n' := 2176) (argsL := [(.ref pa0)]) (rest := []) B at_134 (w28 hw) (w29 hw) (w30 hw) (w31 hw) (con_isToken_5 hw G GS (pa0 := pa0) (pa1 := pa1) (pk0 := pk0) o1 hf0 (by omega)) pd4 ?_
 intro vq2 h3 S4 q2 zh3
 obtain ⟨rfl, rfl, rfl⟩ := q2
 refine Ow.Go.nr (S' := []) (st' := [(.int 0)]) ?_
 refine Ow.iload (pc' := 139) B at_137 ?_
 refine Ow.icmpF (pc' := 142) B at_139 (by decide) ?_
 refine Ow.iconst (pc' := 143) (x := 1) B at_142 ?_
 refine Ow.goto (pc' := 147) B at_143 ?_
 exact Ow.retI (S' := []) (t := .boolean) B at_147 (rfl)
set_option maxRecDepth 65536 in
set_option maxHeartbeats 40000000 in
theorem con_compress_6 (hw : Hw a0 Z) (G : Ow.Glo Z cz sf) (GS : GlS Z) {pa0 : Nat} {pa1 : Nat} {px0 : Int32} {pk0 : ClassId} {pk1 : ClassId} {h0 : Heap} (O0 : Old Z n0 h0) (hf0 : Arv Z h0 pa0 pk0 .char (1 : Int32) [(.int px0)] (.int 0)) (hf1 : Arv Z h0 pa1 pk1 .byte (1 : Int32) [(.int 0)] (.int 0)) (hn0 : n0 ≤ pa0) (hn1 : n0 ≤ pa1) (hc_px0 : nar .char px0 = px0) :
    Ow.Con l Z EL1 n0 my5 jdk_52_method_21_code 7 (Option.some Jvm.ClassFile.FieldType.int) [] ({ frames := 0, cells := 0, slots := 0, locals := 0 } : Room) #[(.ref pa0), (.int 0), (.ref pa1), (.int 0), (.int 1)] [pa1] h0 (fun v h S' => (v = some (.int 0) ∧ h = h0 ∧ (255 : Int32) < px0 ∧ S' = []) ∨ (v = some (.int 1) ∧ Keep h0 h [pa1] ∧ ¬ ((255 : Int32) < px0) ∧ Arv Z h pa1 pk1 .byte (1 : Int32) [(.int px0.toInt8.toInt32)] (.int 0) ∧ S' = [])) := by
 refine Ow.Con.enter (Ls := #[.val (.ref pa0), .val (.int 0), .val (.ref pa1), .val (.int 0), .val (.int 1), .unset, .unset]) (plainFor_of_name pn3) O0 (hEW hw) (hSA hw) ?_
 intro p e s m below meth c B
 have z0 := Ow.old_le O0
 have lpa0 : (pa0 : Nat) < h0.size := hf0.lt
 have lpa1 : (pa1 : Nat) < h0.size := hf1.lt
 refine Ow.iconst (pc' := 1) (x := 0) B e6_0 ?_
 refine Ow.istore (pc' := 3) (Ls' := #[.val (.ref pa0), .val (.int 0), .val (.ref pa1), .val (.int 0), .val (.int 1), .val (.int 0), .unset]) B e6_1 ?_
 refine Ow.iload (pc' := 5) B e6_3 ?_
 refine Ow.iload (pc' := 7) B e6_5 ?_
 refine Ow.icmpF (pc' := 10) B e6_7 (by decide) ?_
 refine Ow.aloadN (pc' := 11) B e6_10 ?_
 refine Ow.iloadN (pc' := 12) B e6_11 ?_
 refine Ow.caload (pc' := 13) B e6_12 hf0 ⟨by decide, by decide⟩ rfl ?_
 refine Ow.istore (pc' := 15) (Ls' := #[.val (.ref pa0), .val (.int 0), .val (.ref pa1), .val (.int 0), .val (.int 1), .val (.int 0), .val (.int px0)]) B e6_13 ?_
 refine Ow.iload (pc' := 17) B e6_15 ?_
 refine Ow.sipush (pc' := 20) (x := 255) B e6_17 ?_
 by_cases c1 : (255 : Int32) < px0
 ·refine Ow.icmpF (pc' := 23) B e6_20 (tlt c1).2.2.2 ?_
  refine Ow.iload (pc' := 25) B e6_23 ?_
  exact Ow.retI (S' := []) (t := .int) B e6_25 (Or.inl (⟨rfl, rfl, c1, rfl⟩))
 ·refine Ow.icmpT (pc' := 26) B e6_20 (flt c1).2.2.2 ?_
  refine Ow.aloadN (pc' := 27) B e6_26 ?_
  refine Ow.iloadN (pc' := 28) B e6_27 ?_
  refine Ow.iload (pc' := 30) B e6_28 ?_
  refine Ow.i2b (pc' := 31) (z := px0.toInt8.toInt32) B e6_30 ?_
  refine Ow.bastore (pc' := 32) (i := 0) B e6_31 hf1 ⟨by decide, by decide⟩ (by simp) ?_
  intro h2 Kh2 V0h2
  have zh2 := Kh2.1
  have V3 : Arv Z h2 pa1 pk1 .byte (1 : Int32) [(.int px0.toInt8.toInt32)] (.int 0) := (by have e0 := V0h2; rw [show nar .byte px0.toInt8.toInt32 = px0.toInt8.toInt32 from Ow.nar_b _] at e0; exact e0)
  refine Ow.iinc (pc' := 35) (y := 1) (Ls' := #[.val (.ref pa0), .val (.int 1), .val (.ref pa1), .val (.int 0), .val (.int 1), .val (.int 0), .val (.int px0)]) B e6_32 ?_
  refine Ow.iinc (pc' := 38) (y := 1) (Ls' := #[.val (.ref pa0), .val (.int 1), .val (.ref pa1), .val (.int 1), .val (.int 1), .val (.int 0), .val (.int px0)]) B e6_35 ?_
  refine Ow.iinc (pc' := 41) (y := 1) (Ls' := #[.val (.ref pa0), .val (.int 1), .val (.ref pa1), .val (.int 1), .val (.int 1), .val (.int 1), .val (.int px0)]) B e6_38 ?_
  refine Ow.goto (pc' := 3) B e6_41 ?_
  refine Ow.iload (pc' := 5) B e6_3 ?_
  refine Ow.iload (pc' := 7) B e6_5 ?_
  refine Ow.icmpT (pc' := 44) B e6_7 (by decide) ?_
  refine Ow.iload (pc' := 46) B e6_44 ?_
  exact Ow.retI (S' := []) (t := .int) B e6_46 (Or.inr (⟨rfl, ((Keep.refl _ [pa1]).trans Kh2 (allS (Or.inl (by simp)) all0)), c1, V3, rfl⟩))
set_option maxRecDepth 65536 in
set_option maxHeartbeats 40000000 in
theorem con_newBytesLength_7 (hw : Hw a0 Z) (G : Ow.Glo Z cz sf) (GS : GlS Z) {h0 : Heap} (O0 : Old Z n0 h0) :
    Ow.Con l Z EL1 n0 my6 jdk_52_method_3_code 1 (Option.some Jvm.ClassFile.FieldType.int) [] ({ frames := 0, cells := 0, slots := 0, locals := 0 } : Room) #[(.int 1)] [] h0 (fun v h S' => (v = some (.int 2) ∧ h = h0 ∧ S' = [])) := by
 refine Ow.Con.enter (Ls := #[.val (.int 1)]) (plainFor_of_name pn3) O0 (hEW hw) (hSA hw) ?_
 intro p e s m below meth c B
 have z0 := Ow.old_le O0
 refine Ow.iloadN (pc' := 1) B e9_0 ?_
 refine Ow.ifT (pc' := 12) B e9_1 (by decide) ?_
 refine Ow.iloadN (pc' := 13) B e9_12 ?_
 refine Ow.ldcInt (pc' := 15) B e9_13 (w123 hw) ?_
 refine Ow.icmpT (pc' := 55) B e9_15 (by decide) ?_
 refine Ow.iloadN (pc' := 56) B e9_55 ?_
 refine Ow.iconst (pc' := 57) (x := 1) B e9_56 ?_
 refine Ow.ishl (pc' := 58) (z := 2) B e9_57 ?_
 exact Ow.retI (S' := []) (t := .int) B e9_58 (⟨rfl, rfl, rfl⟩)
set_option maxRecDepth 65536 in
set_option maxHeartbeats 40000000 in
theorem con_newBytesFor_8 (hw : Hw a0 Z) (G : Ow.Glo Z cz sf) (GS : GlS Z) {h0 : Heap} (O0 : Old Z n0 h0) :
    Ow.Con l Z EL1 n0 my7 jdk_52_method_2_code 1 (Option.some (Jvm.ClassFile.FieldType.array Jvm.ClassFile.FieldType.byte)) [] ({ frames := 1, cells := 1, slots := 2, locals := 12 } : Room) #[(.int 1)] [] h0 (fun v h S' => (∃ r0 : Nat, ∃ k0 : ClassId, v = some (.ref r0) ∧ Keep h0 h [] ∧ h0.size ≤ r0 ∧ Arv Z h r0 k0 .byte (2 : Int32) [(.int 0), (.int 0)] (.int 0) ∧ S' = [r0])) := by
 refine Ow.Con.enter (Ls := #[.val (.int 1)]) (plainFor_of_name pn3) O0 (hEW hw) (hSA hw) ?_
 intro p e s m below meth c B
 have z0 := Ow.old_le O0
 refine Ow.iloadN (pc' := 1) B e8_0 ?_
 refine Ow.Go.old (fun o1 => ?_)
 refine Ow.callStatic (pc' := 4) (W := 0) (k' := 0) (n' := 0) (argsL := [(.int 1)]) (rest := []) B e8_1 (w120 hw) (w121 hw) (w40 hw) (w122 hw) (con_newBytesLength_7 hw G GS o1) pd6 ?_
 intro vq2 h3 S4 q2 zh3
 obtain ⟨rfl, rfl, rfl⟩ := q2
 refine Ow.Go.nr (S' := []) (st' := [(.int 2)]) ?_
 refine Ow.newArr (pc' := 6) (k' := 1) (n' := 2) (cap := 2) B e8_4 (w21 hw) (by decide) (by decide) ?_
 intro h6 a5 ka5 ga5 ba5 Kh6 V0a5
 have zh6 := Kh6.1
 have la5 : (a5 : Nat) < h6.size := V0a5.lt
 have Va5 : Arv Z h6 a5 ka5 .byte (2 : Int32) [(.int 0), (.int 0)] (.int 0) := V0a5.pad (pad_rep [] (.int 0) 2)
 exact Ow.retA (S' := [a5]) (t := (.array .byte)) B e8_6 (⟨a5, ka5, rfl, ((Keep.refl _ []).trans Kh6 (fun _ q => nomatch q)), (by omega), Va5, rfl⟩)
set_option maxRecDepth 65536 in
set_option maxHeartbeats 40000000 in
theorem con_putChar_9 (hw : Hw a0 Z) (G : Ow.Glo Z cz sf) (GS : GlS Z) {pa0 : Nat} {px0 : Int32} {pk0 : ClassId} {h0 : Heap} (O0 : Old Z n0 h0) (hf0 : Arv Z h0 pa0 pk0 .byte (2 : Int32) [(.int 0), (.int 0)] (.int 0)) (hn0 : n0 ≤ pa0) (hc_px0 : nar .char px0 = px0) :
    Ow.Con l Z EL1 n0 my8 jdk_52_method_4_code 3 (Option.none : Option Jvm.ClassFile.FieldType) [] ({ frames := 0, cells := 0, slots := 0, locals := 0 } : Room) #[(.ref pa0), (.int 0), (.int px0)] [pa0] h0 (fun v h S' => (v = none ∧ Keep h0 h [pa0] ∧ Arv Z h pa0 pk0 .byte (2 : Int32) [(.int px0.toInt8.toInt32), (.int (px0 >>> ((8 : Int32) &&& 31)).toInt8.toInt32)] (.int 0) ∧ S' = [])) := by
 refine Ow.Con.enter (Ls := #[.val (.ref pa0), .val (.int 0), .val (.int px0)]) (plainFor_of_name pn3) O0 (hEW hw) (hSA hw) ?_
 intro p e s m below meth c B
 have z0 := Ow.old_le O0
 have lpa0 : (pa0 : Nat) < h0.size := hf0.lt
 refine Ow.getstatic (pc' := 3) B e10_0 (w127 hw) Via.refl GS.1 ?_
 refine Ow.ifT (pc' := 28) B e10_3 (by decide) ?_
 refine Ow.iloadN (pc' := 29) B e10_28 ?_
 refine Ow.iconst (pc' := 30) (x := 1) B e10_29 ?_
 refine Ow.ishl (pc' := 31) (z := 0) B e10_30 ?_
 refine Ow.istoreN (pc' := 32) (Ls' := #[.val (.ref pa0), .val (.int 0), .val (.int px0)]) B e10_31 ?_
 refine Ow.aloadN (pc' := 33) B e10_32 ?_
 refine Ow.iloadN (pc' := 34) B e10_33 ?_
 refine Ow.iinc (pc' := 37) (y := 1) (Ls' := #[.val (.ref pa0), .val (.int 1), .val (.int px0)]) B e10_34 ?_
 refine Ow.iloadN (pc' := 38) B e10_37 ?_
 refine Ow.getstatic (pc' := 41) B e10_38 (w128 hw) Via.refl GS.2.1 ?_
 refine Ow.ishr (pc' := 42) (z := px0) (hz := (Ow.shr0 _)) B e10_41 ?_
 refine Ow.i2b (pc' := 43) (z := px0.toInt8.toInt32) B e10_42 ?_
 refine Ow.bastore (pc' := 44) (i := 0) B e10_43 hf0 ⟨by decide, by decide⟩ (by simp) ?_
 intro h1 Kh1 V0h1
 have zh1 := Kh1.1
 have V2 : Arv Z h1 pa0 pk0 .byte (2 : Int32) [(.int px0.toInt8.toInt32), (.int 0)] (.int 0) := (by have e0 := V0h1; rw [show nar .byte px0.toInt8.toInt32 = px0.toInt8.toInt32 from Ow.nar_b _] at e0; exact e0)
 refine Ow.aloadN (pc' := 45) B e10_44 ?_
 refine Ow.iloadN (pc' := 46) B e10_45 ?_
 refine Ow.iloadN (pc' := 47) B e10_46 ?_
 refine Ow.getstatic (pc' := 50) B e10_47 (w129 hw) Via.refl GS.2.2 ?_
 refine Ow.ishr (pc' := 51) (z := (px0 >>> ((8 : Int32) &&& 31))) B e10_50 ?_
 refine Ow.i2b (pc' := 52) (z := (px0 >>> ((8 : Int32) &&& 31)).toInt8.toInt32) B e10_51 ?_
 refine Ow.bastore (pc' := 53) (i := 1) B e10_52 V2 ⟨by decide, by decide⟩ (by simp) ?_
 intro h3 Kh3 V0h3
 have zh3 := Kh3.1
 have V4 : Arv Z h3 pa0 pk0 .byte (2 : Int32) [(.int px0.toInt8.toInt32), (.int (px0 >>> ((8 : Int32) &&& 31)).toInt8.toInt32)] (.int 0) := (by have e0 := V0h3; rw [show nar .byte (px0 >>> ((8 : Int32) &&& 31)).toInt8.toInt32 = (px0 >>> ((8 : Int32) &&& 31)).toInt8.toInt32 from Ow.nar_b _] at e0; exact e0)
 exact Ow.retV (S' := []) B e10_53 (⟨rfl, (((Keep.refl _ [pa0]).trans Kh1 (allS (Or.inl (by simp)) all0)).trans Kh3 (allS (Or.inl (by simp)) all0)), V4, rfl⟩)
set_option maxRecDepth 65536 in
set_option maxHeartbeats 40000000 in
theorem con_toBytes_10 (hw : Hw a0 Z) (G : Ow.Glo Z cz sf) (GS : GlS Z) {pa0 : Nat} {px0 : Int32} {pk0 : ClassId} {h0 : Heap} (O0 : Old Z n0 h0) (hf0 : Arv Z h0 pa0 pk0 .char (1 : Int32) [(.int px0)] (.int 0)) (hn0 : n0 ≤ pa0) (hc_px0 : nar .char px0 = px0) :
    Ow.Con l Z EL1 n0 my9 jdk_52_method_14_code 5 (Option.some (Jvm.ClassFile.FieldType.array Jvm.ClassFile.FieldType.byte)) [] ({ frames := 2, cells := 1, slots := 2, locals := 24 } : Room) #[(.ref pa0), (.int 0), (.int 1)] [] h0 (fun v h S' => (∃ r0 : Nat, ∃ k0 : ClassId, v = some (.ref r0) ∧ Keep h0 h [] ∧ h0.size ≤ r0 ∧ Arv Z h r0 k0 .byte (2 : Int32) [(.int px0.toInt8.toInt32), (.int (px0 >>> ((8 : Int32) &&& 31)).toInt8.toInt32)] (.int 0) ∧ S' = [r0])) := by
 refine Ow.Con.enter (Ls := #[.val (.ref pa0), .val (.int 0), .val (.int 1), .unset, .unset]) (plainFor_of_name pn3) O0 (hEW hw) (hSA hw) ?_
 intro p e s m below meth c B
 have z0 := Ow.old_le O0
 have lpa0 : (pa0 : Nat) < h0.size := hf0.lt
 refine Ow.iloadN (pc' := 1) B e7_0 ?_
 refine Ow.Go.old (fun o1 => ?_)
 refine Ow.callStatic (pc' := 4) (W := 0) (k' := 1) (n' := 2) (argsL := [(.int 1)]) (rest := []) B e7_1 (w117 hw) (w118 hw) (w40 hw) (w119 hw) (con_newBytesFor_8 hw G GS o1) pd7 ?_
 intro vq2 h3 S4 q2 zh3
 obtain ⟨r5, k6, rfl, Kh3, br5, f7, rfl⟩ := q2
 have lr5 : (r5 : Nat) < h3.size := f7.lt
 refine Ow.Go.norm (S' := [r5]) (st' := [(.ref r5)]) (fun _ q => q) rfl ?_
 refine Ow.astoreN (pc' := 5) (Ls' := #[.val (.ref pa0), .val (.int 0), .val (.int 1), .val (.ref r5), .unset]) B e7_4 ?_
 refine Ow.iconst (pc' := 6) (x := 0) B e7_5 ?_
 refine Ow.istore (pc' := 8) (Ls' := #[.val (.ref pa0), .val (.int 0), .val (.int 1), .val (.ref r5), .val (.int 0)]) B e7_6 ?_
 refine Ow.iload (pc' := 10) B e7_8 ?_
 refine Ow.iloadN (pc' := 11) B e7_10 ?_
 refine Ow.icmpF (pc' := 14) B e7_11 (by decide) ?_
 refine Ow.aloadN (pc' := 15) B e7_14 ?_
 refine Ow.iload (pc' := 17) B e7_15 ?_
 refine Ow.aloadN (pc' := 18) B e7_17 ?_
 refine Ow.iloadN (pc' := 19) B e7_18 ?_
 have f8 := hf0.keep Kh3 Ow.nin0
 refine Ow.caload (pc' := 20) B e7_19 f8 ⟨by decide, by decide⟩ rfl ?_
 refine Ow.Go.old (fun o9 => ?_)
 refine Ow.callStatic (pc' := 23) (W := 0) (k' := 1) (n' := 2) (argsL := [(.ref r5), (.int 0), (.int px0)]) (rest := []) B e7_20 (w124 hw) (w125 hw) (w40 hw) (w126 hw) (con_putChar_9 hw G GS (pa0 := r5) (px0 := px0) (pk0 := k6) o9 f7 (by omega) hc_px0) pd8 ?_
 intro vq10 h11 S12 q10 zh11
 obtain ⟨rfl, Kh11, f13, rfl⟩ := q10
 refine Ow.Go.nr (S' := [r5]) (st' := []) ?_
 refine Ow.iinc (pc' := 26) (y := 1) (Ls' := #[.val (.ref pa0), .val (.int 1), .val (.int 1), .val (.ref r5), .val (.int 0)]) B e7_23 ?_
 refine Ow.iinc (pc' := 29) (y := 1) (Ls' := #[.val (.ref pa0), .val (.int 1), .val (.int 1), .val (.ref r5), .val (.int 1)]) B e7_26 ?_
 refine Ow.goto (pc' := 8) B e7_29 ?_
 refine Ow.iload (pc' := 10) B e7_8 ?_
 refine Ow.iloadN (pc' := 11) B e7_10 ?_
 refine Ow.icmpT (pc' := 32) B e7_11 (by decide) ?_
 refine Ow.aloadN (pc' := 33) B e7_32 ?_
 exact Ow.retA (S' := [r5]) (t := (.array .byte)) B e7_33 (⟨r5, k6, rfl, (((Keep.refl _ []).trans Kh3 (fun _ q => nomatch q)).trans Kh11 (allS (Or.inr (by omega)) all0)), (by omega), f13, rfl⟩)
set_option maxRecDepth 65536 in
set_option maxHeartbeats 40000000 in
theorem con_getChar_11 (hw : Hw a0 Z) (G : Ow.Glo Z cz sf) (GS : GlS Z) {pa0 : Nat} {px0 : Int32} {pk0 : ClassId} {h0 : Heap} (O0 : Old Z n0 h0) (hf0 : Arv Z h0 pa0 pk0 .byte (2 : Int32) [(.int px0.toInt8.toInt32), (.int (px0 >>> ((8 : Int32) &&& 31)).toInt8.toInt32)] (.int 0)) (hn0 : n0 ≤ pa0) (hk0 : ¬ (px0 < (0 : Int32))) (hk1 : ¬ ((65535 : Int32) < px0)) (hc_px0 : nar .char px0 = px0) :
    Ow.Con l Z EL1 n0 my10 jdk_52_method_5_code 2 (Option.some Jvm.ClassFile.FieldType.char) [] ({ frames := 0, cells := 0, slots := 0, locals := 0 } : Room) #[(.ref pa0), (.int 0)] [pa0] h0 (fun v h S' => (v = some (.int px0) ∧ h = h0 ∧ S' = [])) := by
 refine Ow.Con.enter (Ls := #[.val (.ref pa0), .val (.int 0)]) (plainFor_of_name pn3) O0 (hEW hw) (hSA hw) ?_
 intro p e s m below meth c B
 have z0 := Ow.old_le O0
 have lpa0 : (pa0 : Nat) < h0.size := hf0.lt
 refine Ow.getstatic (pc' := 3) B e11_0 (w127 hw) Via.refl GS.1 ?_
 refine Ow.ifT (pc' := 28) B e11_3 (by decide) ?_
 refine Ow.iloadN (pc' := 29) B e11_28 ?_
 refine Ow.iconst (pc' := 30) (x := 1) B e11_29 ?_
 refine Ow.ishl (pc' := 31) (z := 0) B e11_30 ?_
 refine Ow.istoreN (pc' := 32) (Ls' := #[.val (.ref pa0), .val (.int 0)]) B e11_31 ?_
 refine Ow.aloadN (pc' := 33) B e11_32 ?_
 refine Ow.iloadN (pc' := 34) B e11_33 ?_
 refine Ow.iinc (pc' := 37) (y := 1) (Ls' := #[.val (.ref pa0), .val (.int 1)]) B e11_34 ?_
 refine Ow.baload (pc' := 38) B e11_37 hf0 ⟨by decide, by decide⟩ rfl ?_
 refine Ow.sipush (pc' := 41) (x := 255) B e11_38 ?_
 refine Ow.iand (pc' := 42) (z := (px0.toInt8.toInt32 &&& (255 : Int32))) B e11_41 ?_
 refine Ow.getstatic (pc' := 45) B e11_42 (w128 hw) Via.refl GS.2.1 ?_
 refine Ow.ishl (pc' := 46) (z := ((px0.toInt8.toInt32 &&& (255 : Int32)) <<< ((0 : Int32) &&& 31))) B e11_45 ?_
 refine Ow.aloadN (pc' := 47) B e11_46 ?_
 refine Ow.iloadN (pc' := 48) B e11_47 ?_
 refine Ow.baload (pc' := 49) B e11_48 hf0 ⟨by decide, by decide⟩ rfl ?_
 refine Ow.sipush (pc' := 52) (x := 255) B e11_49 ?_
 refine Ow.iand (pc' := 53) (z := ((px0 >>> ((8 : Int32) &&& 31)).toInt8.toInt32 &&& (255 : Int32))) B e11_52 ?_
 refine Ow.getstatic (pc' := 56) B e11_53 (w129 hw) Via.refl GS.2.2 ?_
 refine Ow.ishl (pc' := 57) (z := (((px0 >>> ((8 : Int32) &&& 31)).toInt8.toInt32 &&& (255 : Int32)) <<< ((8 : Int32) &&& 31))) B e11_56 ?_
 refine Ow.ior (pc' := 58) (z := px0) (hz := (Ow.u16 (hk0) (hk1))) B e11_57 ?_
 refine Ow.i2c (pc' := 59) (z := px0) (hz := hc_px0) B e11_58 ?_
 exact Ow.retI (S' := []) (t := .char) (hnn := (Ow.cnarrow hc_px0)) B e11_59 (⟨rfl, rfl, rfl⟩)
set_option maxRecDepth 65536 in
set_option maxHeartbeats 40000000 in
theorem con_compress_12 (hw : Hw a0 Z) (G : Ow.Glo Z cz sf) (GS : GlS Z) {pa0 : Nat} {px0 : Int32} {pk0 : ClassId} {h0 : Heap} (O0 : Old Z n0 h0) (hf0 : Arv Z h0 pa0 pk0 .char (1 : Int32) [(.int px0)] (.int 0)) (hn0 : n0 ≤ pa0) (hk0 : ¬ (px0 < (0 : Int32))) (hk1 : ¬ ((65535 : Int32) < px0)) (hc_px0 : nar .char px0 = px0) :
    Ow.Con l Z EL1 n0 my11 jdk_52_method_16_code 6 (Option.some (Jvm.ClassFile.FieldType.array Jvm.ClassFile.FieldType.byte)) [] ({ frames := 3, cells := 2, slots := 3, locals := 40 } : Room) #[(.ref pa0), (.int 0), (.int 1)] [] h0 (fun v h S' => (∃ r0 : Nat, ∃ k0 : ClassId, v = some (.ref r0) ∧ Keep h0 h [] ∧ (255 : Int32) < px0 ∧ h0.size ≤ r0 ∧ Arv Z h r0 k0 .byte (2 : Int32) [(.int px0.toInt8.toInt32), (.int (px0 >>> ((8 : Int32) &&& 31)).toInt8.toInt32)] (.int 0) ∧ S' = [r0]) ∨ (∃ r0 : Nat, ∃ k0 : ClassId, v = some (.ref r0) ∧ Keep h0 h [] ∧ ¬ ((255 : Int32) < px0) ∧ h0.size ≤ r0 ∧ Arv Z h r0 k0 .byte (1 : Int32) [(.int px0.toInt8.toInt32)] (.int 0) ∧ S' = [r0])) := by
 refine Ow.Con.enter (Ls := #[.val (.ref pa0), .val (.int 0), .val (.int 1), .unset, .unset, .unset]) (plainFor_of_name pn3) O0 (hEW hw) (hSA hw) ?_
 intro p e s m below meth c B
 have z0 := Ow.old_le O0
 have lpa0 : (pa0 : Nat) < h0.size := hf0.lt
 refine Ow.iloadN (pc' := 1) B e5_0 ?_
 refine Ow.newArr (pc' := 3) (k' := 1) (n' := 1) (cap := 1) B e5_1 (w21 hw) (by decide) (by decide) ?_
 intro h2 a1 ka1 ga1 ba1 Kh2 V0a1
 have zh2 := Kh2.1
 have la1 : (a1 : Nat) < h2.size := V0a1.lt
 have Va1 : Arv Z h2 a1 ka1 .byte (1 : Int32) [(.int 0)] (.int 0) := V0a1.pad (pad_rep [] (.int 0) 1)
 refine Ow.astoreN (pc' := 4) (Ls' := #[.val (.ref pa0), .val (.int 0), .val (.int 1), .val (.ref a1), .unset, .unset]) B e5_3 ?_
 refine Ow.aloadN (pc' := 5) B e5_4 ?_
 refine Ow.iloadN (pc' := 6) B e5_5 ?_
 refine Ow.aloadN (pc' := 7) B e5_6 ?_
 refine Ow.iconst (pc' := 8) (x := 0) B e5_7 ?_
 refine Ow.iloadN (pc' := 9) B e5_8 ?_
 refine Ow.Go.old (fun o3 => ?_)
 have f4 := hf0.keep Kh2 Ow.nin0
 refine Ow.callStatic (pc' := 12) (W := 0) (k' := 1) (n' := 1) (argsL := [(.ref pa0), (.int 0), (.ref a1), (.int 0), (.int 1)]) (rest := []) B e5_9 (w42 hw) (w43 hw) (w40 hw) (w44 hw) (con_compress_6 hw G GS (pa0 := pa0) (pa1 := a1) (px0 := px0) (pk0 := pk0) (pk1 := ka1) o3 f4 Va1 (by omega) (by omega) hc_px0) pd5 ?_
 intro vq5 h6 S7 q5 zh6
 rcases q5 with q5 | q5
 ·obtain ⟨rfl, rfl, c8, rfl⟩ := q5
  refine Ow.Go.nr (S' := [a1]) (st' := [(.int 0)]) ?_
  refine Ow.istore (pc' := 14) (Ls' := #[.val (.ref pa0), .val (.int 0), .val (.int 1), .val (.ref a1), .val (.int 0), .unset]) B e5_12 ?_
  refine Ow.iload (pc' := 16) B e5_14 ?_
  refine Ow.iloadN (pc' := 17) B e5_16 ?_
  refine Ow.icmpF (pc' := 20) B e5_17 (by decide) ?_
  refine Ow.aloadN (pc' := 21) B e5_20 ?_
  refine Ow.iloadN (pc' := 22) B e5_21 ?_
  refine Ow.iloadN (pc' := 23) B e5_22 ?_
  refine Ow.Go.old (fun o9 => ?_)
  refine Ow.callStatic (pc' := 26) (W := 0) (k' := 2) (n' := 3) (argsL := [(.ref pa0), (.int 0), (.int 1)]) (rest := []) B e5_23 (w114 hw) (w115 hw) (w40 hw) (w116 hw) (con_toBytes_10 hw G GS (pa0 := pa0) (px0 := px0) (pk0 := pk0) o9 f4 (by omega) hc_px0) pd9 ?_
  intro vq10 h11 S12 q10 zh11
  obtain ⟨r13, k14, rfl, Kh11, br13, f15, rfl⟩ := q10
  have lr13 : (r13 : Nat) < h11.size := f15.lt
  refine Ow.Go.norm (S' := [r13, a1]) (st' := [(.ref r13)]) (fun _ q => q) rfl ?_
  refine Ow.astore (pc' := 28) (Ls' := #[.val (.ref pa0), .val (.int 0), .val (.int 1), .val (.ref a1), .val (.int 0), .val (.ref r13)]) B e5_26 ?_
  refine Ow.aload (pc' := 30) B e5_28 ?_
  refine Ow.iload (pc' := 32) B e5_30 ?_
  refine Ow.Go.old (fun o16 => ?_)
  refine Ow.callStatic (pc' := 35) (W := 0) (k' := 2) (n' := 3) (argsL := [(.ref r13), (.int 0)]) (rest := []) B e5_32 (w130 hw) (w131 hw) (w40 hw) (w132 hw) (con_getChar_11 hw G GS (pa0 := r13) (px0 := px0) (pk0 := k14) o16 f15 (by omega) (hk0) (hk1) hc_px0) pd10 ?_
  intro vq17 h18 S19 q17 zh18
  obtain ⟨rfl, rfl, rfl⟩ := q17
  refine Ow.Go.nr (S' := [r13, a1]) (st' := [(.int px0)]) ?_
  refine Ow.sipush (pc' := 38) (x := 255) B e5_35 ?_
  refine Ow.icmpT (pc' := 54) B e5_38 (tlt (c8)).2.2.1 ?_
  refine Ow.aload (pc' := 56) B e5_54 ?_
  exact Ow.retA (S' := [r13]) (t := (.array .byte)) B e5_56 (Or.inl (⟨r13, k14, rfl, (((Keep.refl _ []).trans Kh2 (fun _ q => nomatch q)).trans Kh11 (fun _ q => nomatch q)), c8, (by omega), f15, rfl⟩))
 ·obtain ⟨rfl, Kh6, c20, f21, rfl⟩ := q5
  refine Ow.Go.nr (S' := [a1]) (st' := [(.int 1)]) ?_
  refine Ow.istore (pc' := 14) (Ls' := #[.val (.ref pa0), .val (.int 0), .val (.int 1), .val (.ref a1), .val (.int 1), .unset]) B e5_12 ?_
  refine Ow.iload (pc' := 16) B e5_14 ?_
  refine Ow.iloadN (pc' := 17) B e5_16 ?_
  refine Ow.icmpT (pc' := 57) B e5_17 (by decide) ?_
  refine Ow.aloadN (pc' := 58) B e5_57 ?_
  exact Ow.retA (S' := [a1]) (t := (.array .byte)) B e5_58 (Or.inr (⟨a1, ka1, rfl, (((Keep.refl _ []).trans Kh2 (fun _ q => nomatch q)).trans Kh6 (allS (Or.inr (by omega)) all0)), c20, (by omega), f21, rfl⟩))
set_option maxRecDepth 65536 in
set_option maxHeartbeats 40000000 in
theorem con_coderFromArrayLen_13 (hw : Hw a0 Z) (G : Ow.Glo Z cz sf) (GS : GlS Z) {pa0 : Nat} {px0 : Int32} {pk0 : ClassId} {h0 : Heap} (O0 : Old Z n0 h0) (hf0 : Arv Z h0 pa0 pk0 .byte (2 : Int32) [(.int px0.toInt8.toInt32), (.int (px0 >>> ((8 : Int32) &&& 31)).toInt8.toInt32)] (.int 0)) (hn0 : n0 ≤ pa0) (hc_px0 : nar .char px0 = px0) :
    Ow.Con l Z EL1 n0 my12 jdk_52_method_15_code 2 (Option.some Jvm.ClassFile.FieldType.byte) [] ({ frames := 0, cells := 0, slots := 0, locals := 0 } : Room) #[(.ref pa0), (.int 1)] [pa0] h0 (fun v h S' => (v = some (.int 1) ∧ h = h0 ∧ S' = [])) := by
 refine Ow.Con.enter (Ls := #[.val (.ref pa0), .val (.int 1)]) (plainFor_of_name pn3) O0 (hEW hw) (hSA hw) ?_
 intro p e s m below meth c B
 have z0 := Ow.old_le O0
 have lpa0 : (pa0 : Nat) < h0.size := hf0.lt
 refine Ow.iloadN (pc' := 1) B e12_0 ?_
 refine Ow.aloadN (pc' := 2) B e12_1 ?_
 refine Ow.arrlen (pc' := 3) B e12_2 hf0 ?_
 refine Ow.isub (pc' := 4) (z := (-1 : Int32)) B e12_3 ?_
 refine Ow.bipush (pc' := 6) (x := 31) B e12_4 ?_
 refine Ow.iushr (pc' := 7) (z := 1) B e12_6 ?_
 refine Ow.i2b (pc' := 8) (z := 1) B e12_7 ?_
 exact Ow.retI (S' := []) (t := .byte) B e12_8 (⟨rfl, rfl, rfl⟩)
set_option maxRecDepth 65536 in
set_option maxHeartbeats 40000000 in
theorem con_coderFromArrayLen_14 (hw : Hw a0 Z) (G : Ow.Glo Z cz sf) (GS : GlS Z) {pa0 : Nat} {px0 : Int32} {pk0 : ClassId} {h0 : Heap} (O0 : Old Z n0 h0) (hf0 : Arv Z h0 pa0 pk0 .byte (1 : Int32) [(.int px0.toInt8.toInt32)] (.int 0)) (hn0 : n0 ≤ pa0) (hc_px0 : nar .char px0 = px0) :
    Ow.Con l Z EL1 n0 my12 jdk_52_method_15_code 2 (Option.some Jvm.ClassFile.FieldType.byte) [] ({ frames := 0, cells := 0, slots := 0, locals := 0 } : Room) #[(.ref pa0), (.int 1)] [pa0] h0 (fun v h S' => (v = some (.int 0) ∧ h = h0 ∧ S' = [])) := by
 refine Ow.Con.enter (Ls := #[.val (.ref pa0), .val (.int 1)]) (plainFor_of_name pn3) O0 (hEW hw) (hSA hw) ?_
 intro p e s m below meth c B
 have z0 := Ow.old_le O0
 have lpa0 : (pa0 : Nat) < h0.size := hf0.lt
 refine Ow.iloadN (pc' := 1) B e12_0 ?_
 refine Ow.aloadN (pc' := 2) B e12_1 ?_
 refine Ow.arrlen (pc' := 3) B e12_2 hf0 ?_
 refine Ow.isub (pc' := 4) (z := 0) B e12_3 ?_
 refine Ow.bipush (pc' := 6) (x := 31) B e12_4 ?_
 refine Ow.iushr (pc' := 7) (z := 0) B e12_6 ?_
 refine Ow.i2b (pc' := 8) (z := 0) B e12_7 ?_
 exact Ow.retI (S' := []) (t := .byte) B e12_8 (⟨rfl, rfl, rfl⟩)
set_option maxRecDepth 65536 in
set_option maxHeartbeats 40000000 in
theorem con_init_15 (hw : Hw a0 Z) (G : Ow.Glo Z cz sf) (GS : GlS Z) {pa0 : Nat} {pa1 : Nat} {px0 : Int32} {pk0 : ClassId} {h0 : Heap} (O0 : Old Z n0 h0) (hf0 : Exa Z h0 pa0 "java/lang/String") (hf1 : Fld Z h0 pa0 "java/lang/String" "coder" "B" (.int 0)) (hf2 : Fld Z h0 pa0 "java/lang/String" "value" "[B" .null) (hf3 : Arv Z h0 pa1 pk0 .char (1 : Int32) [(.int px0)] (.int 0)) (hn0 : n0 ≤ pa0) (hn1 : n0 ≤ pa1) (hk0 : ¬ (px0 < (0 : Int32))) (hk1 : ¬ ((65535 : Int32) < px0)) (hc_px0 : nar .char px0 = px0) :
    Ow.Con l Z EL1 n0 my0 jdk_42_method_149_code 6 (Option.none : Option Jvm.ClassFile.FieldType) [] ({ frames := 4, cells := 2, slots := 3, locals := 57 } : Room) #[(.ref pa0), (.ref pa1), (.int 0), (.int 1), .null] [pa0] h0 (fun v h S' => (∃ r0 : Nat, ∃ k0 : ClassId, v = none ∧ Keep h0 h [pa0] ∧ h0.size ≤ r0 ∧ Ow.Chs Z h pa0 r0 k0 [px0] ∧ S' = [])) := by
 refine Ow.Con.enter (Ls := #[.val (.ref pa0), .val (.ref pa1), .val (.int 0), .val (.int 1), .val .null, .unset]) (plainFor_of_name pn1) O0 (hEW hw) (hSA hw) ?_
 intro p e s m below meth c B
 have z0 := Ow.old_le O0
 have lpa0 : (pa0 : Nat) < h0.size := hf0.lt
 have lpa1 : (pa1 : Nat) < h0.size := hf3.lt
 refine Ow.aloadN (pc' := 1) B e3_0 ?_
 refine Ow.objInit (pc' := 4) (W := 0) B e3_1 (w17 hw) (w18 hw) (w19 hw) ?_
 refine Ow.iloadN (pc' := 5) B e3_4 ?_
 refine Ow.ifT (pc' := 27) B e3_5 (by decide) ?_
 refine Ow.getstatic (pc' := 30) B e3_27 (w37 hw) Via.refl G.1 ?_
 refine Ow.ifF (pc' := 33) B e3_30 (feq (G.2.1)).1 ?_
 refine Ow.aloadN (pc' := 34) B e3_33 ?_
 refine Ow.iloadN (pc' := 35) B e3_34 ?_
 refine Ow.iloadN (pc' := 36) B e3_35 ?_
 refine Ow.Go.old (fun o1 => ?_)
 refine Ow.callStatic (pc' := 39) (W := 0) (k' := 2) (n' := 3) (argsL := [(.ref pa1), (.int 0), (.int 1)]) (rest := []) B e3_36 (w38 hw) (w39 hw) (w40 hw) (w41 hw) (con_compress_12 hw G GS (pa0 := pa1) (px0 := px0) (pk0 := pk0) o1 hf3 (by omega) (hk0) (hk1) hc_px0) pd9 ?_
 intro vq2 h3 S4 q2 zh3
 rcases q2 with q2 | q2
 ·obtain ⟨r5, k6, rfl, Kh3, c7, br5, f8, rfl⟩ := q2
  have lr5 : (r5 : Nat) < h3.size := f8.lt
  refine Ow.Go.norm (S' := [r5, pa0]) (st' := [(.ref r5)]) (fun _ q => q) rfl ?_
  refine Ow.astore (pc' := 41) (Ls' := #[.val (.ref pa0), .val (.ref pa1), .val (.int 0), .val (.int 1), .val .null, .val (.ref r5)]) B e3_39 ?_
  refine Ow.aloadN (pc' := 42) B e3_41 ?_
  refine Ow.aload (pc' := 44) B e3_42 ?_
  refine Ow.iloadN (pc' := 45) B e3_44 ?_
  refine Ow.Go.old (fun o9 => ?_)
  refine Ow.callStatic (pc' := 48) (W := 1) (k' := 2) (n' := 3) (argsL := [(.ref r5), (.int 1)]) (rest := [(.ref pa0)]) B e3_45 (w45 hw) (w46 hw) (w40 hw) (w47 hw) (con_coderFromArrayLen_13 hw G GS (pa0 := r5) (px0 := px0) (pk0 := k6) o9 f8 (by omega) hc_px0) pd11 ?_
  intro vq10 h11 S12 q10 zh11
  obtain ⟨rfl, rfl, rfl⟩ := q10
  refine Ow.Go.nr (S' := [r5, pa0]) (st' := [(.int 1), (.ref pa0)]) ?_
  have f13 := hf1.keep Kh3 Ow.nin0
  have f14 := hf0.keep Kh3
  refine Ow.putfield (pc' := 51) (ty := .byte) B e3_48 (w27 hw) Via.refl f13 f14 (Or.inr ⟨(w23 hw), rfl, rfl⟩) (w7 hw) (Or.inl (by simp)) ?_
  intro h15 Wh15
  have f16 := hf2.keep Kh3 Ow.nin0
  have Kh15 := Keep.of_wr Wh15
  have zh15 := Kh15.1
  have f17 : Fld Z h15 pa0 "java/lang/String" "coder" "B" (.int 1) := f13.same Wh15
  have f18 : Fld Z h15 pa0 "java/lang/String" "value" "[B" .null := f16.other Wh15 (Or.inr (slot_ne (a0 := a0) (C := "java/lang/String") (t := (.array .byte)) (t' := .byte) (Or.inr (w22 hw)) (Or.inr (w23 hw)) (by decide) (by decide) (by decide)))
  refine Ow.aloadN (pc' := 52) B e3_51 ?_
  refine Ow.aload (pc' := 54) B e3_52 ?_
  have f19 := f14.keep Kh15
  refine Ow.putfield (pc' := 57) (ty := (.array .byte)) B e3_54 (w26 hw) Via.refl f18 f19 (Or.inr ⟨(w22 hw), rfl, rfl⟩) (w7 hw) (Or.inl (by simp)) ?_
  intro h20 Wh20
  have Kh20 := Keep.of_wr Wh20
  have zh20 := Kh20.1
  have f21 : Fld Z h20 pa0 "java/lang/String" "value" "[B" (.ref r5) := f18.same Wh20
  have f22 : Fld Z h20 pa0 "java/lang/String" "coder" "B" (.int 1) := f17.other Wh20 (Or.inr (slot_ne (a0 := a0) (C := "java/lang/String") (t := .byte) (t' := (.array .byte)) (Or.inr (w23 hw)) (Or.inr (w22 hw)) (by decide) (by decide) (by decide)))
  have f23 := f19.keep Kh20
  have f24 := f8.keep Kh15 (Ow.ninS (by omega) Ow.nin0)
  have f25 := f24.keep Kh20 (Ow.ninS (by omega) Ow.nin0)
  have s26 : Ow.Chs Z h20 pa0 r5 k6 [px0] := ⟨f23, f21, (Ow.allI ⟨(hk0), (hk1)⟩ Ow.allI0), Or.inr ⟨f22, f25, px0, by simp, c7⟩⟩
  exact Ow.retV (S' := []) B e3_57 (⟨r5, k6, rfl, ((((Keep.refl _ [pa0]).trans Kh3 (fun _ q => nomatch q)).trans Kh15 (allS (Or.inl (by simp)) all0)).trans Kh20 (allS (Or.inl (by simp)) all0)), (by omega), s26, rfl⟩)
 ·obtain ⟨r27, k28, rfl, Kh3, c29, br27, f30, rfl⟩ := q2
  have lr27 : (r27 : Nat) < h3.size := f30.lt
  refine Ow.Go.norm (S' := [r27, pa0]) (st' := [(.ref r27)]) (fun _ q => q) rfl ?_
  refine Ow.astore (pc' := 41) (Ls' := #[.val (.ref pa0), .val (.ref pa1), .val (.int 0), .val (.int 1), .val .null, .val (.ref r27)]) B e3_39 ?_
  refine Ow.aloadN (pc' := 42) B e3_41 ?_
  refine Ow.aload (pc' := 44) B e3_42 ?_
  refine Ow.iloadN (pc' := 45) B e3_44 ?_
  refine Ow.Go.old (fun o31 => ?_)
  refine Ow.callStatic (pc' := 48) (W := 1) (k' := 2) (n' := 3) (argsL := [(.ref r27), (.int 1)]) (rest := [(.ref pa0)]) B e3_45 (w45 hw) (w46 hw) (w40 hw) (w47 hw) (con_coderFromArrayLen_14 hw G GS (pa0 := r27) (px0 := px0) (pk0 := k28) o31 f30 (by omega) hc_px0) pd11 ?_
  intro vq32 h33 S34 q32 zh33
  obtain ⟨rfl, rfl, rfl⟩ := q32
  refine Ow.Go.nr (S' := [r27, pa0]) (st' := [(.int 0), (.ref pa0)]) ?_
  have f35 := hf1.keep Kh3 Ow.nin0
  have f36 := hf0.keep Kh3
  refine Ow.putfield (pc' := 51) (ty := .byte) B e3_48 (w27 hw) Via.refl f35 f36 (Or.inr ⟨(w23 hw), rfl, rfl⟩) (w7 hw) (Or.inl (by simp)) ?_
  intro h37 Wh37
  have f38 := hf2.keep Kh3 Ow.nin0
  have Kh37 := Keep.of_wr Wh37
  have zh37 := Kh37.1
  have f39 : Fld Z h37 pa0 "java/lang/String" "coder" "B" (.int 0) := f35.same Wh37
  have f40 : Fld Z h37 pa0 "java/lang/String" "value" "[B" .null := f38.other Wh37 (Or.inr (slot_ne (a0 := a0) (C := "java/lang/String") (t := (.array .byte)) (t' := .byte) (Or.inr (w22 hw)) (Or.inr (w23 hw)) (by decide) (by decide) (by decide)))
  refine Ow.aloadN (pc' := 52) B e3_51 ?_
  refine Ow.aload (pc' := 54) B e3_52 ?_
  have f41 := f36.keep Kh37
  refine Ow.putfield (pc' := 57) (ty := (.array .byte)) B e3_54 (w26 hw) Via.refl f40 f41 (Or.inr ⟨(w22 hw), rfl, rfl⟩) (w7 hw) (Or.inl (by simp)) ?_
  intro h42 Wh42
  have Kh42 := Keep.of_wr Wh42
  have zh42 := Kh42.1
  have f43 : Fld Z h42 pa0 "java/lang/String" "value" "[B" (.ref r27) := f40.same Wh42
  have f44 : Fld Z h42 pa0 "java/lang/String" "coder" "B" (.int 0) := f39.other Wh42 (Or.inr (slot_ne (a0 := a0) (C := "java/lang/String") (t := .byte) (t' := (.array .byte)) (Or.inr (w23 hw)) (Or.inr (w22 hw)) (by decide) (by decide) (by decide)))
  have f45 := f41.keep Kh42
  have f46 := f30.keep Kh37 (Ow.ninS (by omega) Ow.nin0)
  have f47 := f46.keep Kh42 (Ow.ninS (by omega) Ow.nin0)
  have s48 : Ow.Chs Z h42 pa0 r27 k28 [px0] := ⟨f45, f43, (Ow.allI ⟨(hk0), (hk1)⟩ Ow.allI0), Or.inl ⟨f44, f47, (Ow.allI (c29) Ow.allI0)⟩⟩
  exact Ow.retV (S' := []) B e3_57 (⟨r27, k28, rfl, ((((Keep.refl _ [pa0]).trans Kh3 (fun _ q => nomatch q)).trans Kh37 (allS (Or.inl (by simp)) all0)).trans Kh42 (allS (Or.inl (by simp)) all0)), (by omega), s48, rfl⟩)
set_option maxRecDepth 65536 in
set_option maxHeartbeats 40000000 in
theorem con_init_16 (hw : Hw a0 Z) (G : Ow.Glo Z cz sf) (GS : GlS Z) {pa0 : Nat} {pa1 : Nat} {px0 : Int32} {pk0 : ClassId} {h0 : Heap} (O0 : Old Z n0 h0) (hf0 : Exa Z h0 pa0 "java/lang/String") (hf1 : Fld Z h0 pa0 "java/lang/String" "coder" "B" (.int 0)) (hf2 : Fld Z h0 pa0 "java/lang/String" "value" "[B" .null) (hf3 : Arv Z h0 pa1 pk0 .char (1 : Int32) [(.int px0)] (.int 0)) (hn0 : n0 ≤ pa0) (hn1 : n0 ≤ pa1) (hk0 : ¬ (px0 < (0 : Int32))) (hk1 : ¬ ((65535 : Int32) < px0)) (hc_px0 : nar .char px0 = px0) :
    Ow.Con l Z EL1 n0 my1 jdk_42_method_3_code 2 (Option.none : Option Jvm.ClassFile.FieldType) [] ({ frames := 5, cells := 2, slots := 3, locals := 74 } : Room) #[(.ref pa0), (.ref pa1)] [pa0] h0 (fun v h S' => (∃ r0 : Nat, ∃ k0 : ClassId, v = none ∧ Keep h0 h [pa0] ∧ h0.size ≤ r0 ∧ Ow.Chs Z h pa0 r0 k0 [px0] ∧ S' = [])) := by
 refine Ow.Con.enter (Ls := #[.val (.ref pa0), .val (.ref pa1)]) (plainFor_of_name pn1) O0 (hEW hw) (hSA hw) ?_
 intro p e s m below meth c B
 have z0 := Ow.old_le O0
 have lpa0 : (pa0 : Nat) < h0.size := hf0.lt
 have lpa1 : (pa1 : Nat) < h0.size := hf3.lt
 refine Ow.aloadN (pc' := 1) B e2_0 ?_
 refine Ow.aloadN (pc' := 2) B e2_1 ?_
 refine Ow.iconst (pc' := 3) (x := 0) B e2_2 ?_
 refine Ow.aloadN (pc' := 4) B e2_3 ?_
 refine Ow.arrlen (pc' := 5) B e2_4 hf3 ?_
 refine Ow.aconstNull (pc' := 6) B e2_5 ?_
 refine Ow.Go.old (fun o1 => ?_)
 refine Ow.callInit (pc' := 9) (W := 0) (k' := 2) (n' := 3) (argsL := [(.ref pa1), (.int 0), (.int 1), .null]) (rest := []) B e2_6 (w13 hw) (w14 hw) (w8 hw) (w16 hw) (con_init_15 hw G GS (pa0 := pa0) (pa1 := pa1) (px0 := px0) (pk0 := pk0) o1 hf0 hf1 hf2 hf3 (by omega) (by omega) (hk0) (hk1) hc_px0) pd0 ?_
 intro vq2 h3 S4 q2 zh3
 obtain ⟨r5, k6, rfl, Kh3, br5, f7, rfl⟩ := q2
 have lr5 : (r5 : Nat) < h3.size := f7.ltt
 refine Ow.Go.nr (S' := [pa0]) (st' := []) ?_
 exact Ow.retV (S' := []) B e2_9 (⟨r5, k6, rfl, ((Keep.refl _ [pa0]).trans Kh3 (allS (Or.inl (by simp)) all0)), (by omega), f7, rfl⟩)
set_option maxRecDepth 65536 in
set_option maxHeartbeats 40000000 in
theorem con_make_17 (hw : Hw a0 Z) (G : Ow.Glo Z cz sf) (GS : GlS Z) {px0 : Int32} {px1 : Int32} {px2 : Int32} {px3 : Int32} {h0 : Heap} (O0 : Old Z n0 h0) (hk0 : ¬ (px0 < (0 : Int32))) (hk1 : ¬ ((65535 : Int32) < px0)) (hc_px0 : nar .char px0 = px0) (hc_px1 : nar .char px1 = px1) (hc_px2 : nar .char px2 = px2) (hc_px3 : nar .char px3 = px3) :
    Ow.Con l Z EL1 n0 my2 method_4_code 6 (Option.some (Jvm.ClassFile.FieldType.object "java/lang/String")) [] ({ frames := 6, cells := 4, slots := 8, locals := 88 } : Room) #[(.int 1), (.int px0), (.int px1), (.int px2), (.int px3)] [] h0 (fun v h S' => (∃ r0 : Nat, ∃ r1 : Nat, ∃ k0 : ClassId, v = some (.ref r0) ∧ Keep h0 h [] ∧ h0.size ≤ r0 ∧ h0.size ≤ r1 ∧ r1 ≠ r0 ∧ Ow.Chs Z h r0 r1 k0 [px0] ∧ S' = [])) := by
 refine Ow.Con.enter (Ls := #[.val (.int 1), .val (.int px0), .val (.int px1), .val (.int px2), .val (.int px3), .unset]) (plainFor_of_name pn0) O0 (hEW hw) (hSA hw) ?_
 intro p e s m below meth c B
 have z0 := Ow.old_le O0
 refine Ow.iloadN (pc' := 1) B e1_0 ?_
 refine Ow.ifT (pc' := 15) B e1_1 (by decide) ?_
 refine Ow.iloadN (pc' := 16) B e1_15 ?_
 refine Ow.iconst (pc' := 17) (x := 1) B e1_16 ?_
 refine Ow.icmpF (pc' := 20) B e1_17 (by decide) ?_
 refine Ow.iconst (pc' := 21) (x := 1) B e1_20 ?_
 refine Ow.newArr (pc' := 23) (k' := 1) (n' := 1) (cap := 1) B e1_21 (w9 hw) (by decide) (by decide) ?_
 intro h2 a1 ka1 ga1 ba1 Kh2 V0a1
 have zh2 := Kh2.1
 have la1 : (a1 : Nat) < h2.size := V0a1.lt
 have Va1 : Arv Z h2 a1 ka1 .char (1 : Int32) [(.int 0)] (.int 0) := V0a1.pad (pad_rep [] (.int 0) 1)
 refine Ow.astore (pc' := 25) (Ls' := #[.val (.int 1), .val (.int px0), .val (.int px1), .val (.int px2), .val (.int px3), .val (.ref a1)]) B e1_23 ?_
 refine Ow.aload (pc' := 27) B e1_25 ?_
 refine Ow.iconst (pc' := 28) (x := 0) B e1_27 ?_
 refine Ow.iloadN (pc' := 29) B e1_28 ?_
 refine Ow.castore (pc' := 30) (i := 0) B e1_29 Va1 ⟨by decide, by decide⟩ ?_
 intro h3 Kh3 V0h3
 have zh3 := Kh3.1
 have V4 : Arv Z h3 a1 ka1 .char (1 : Int32) [(.int px0)] (.int 0) := (by have e0 := V0h3; rw [show nar .char px0 = px0 from hc_px0] at e0; exact e0)
 refine Ow.newObj (pc' := 33) (k' := 2) (n' := 5) B e1_30 (w6 hw) (w7 hw) (w8 hw) ?_
 intro h6 a5 ga5 ba5 Kh6 Aa5 Da5
 have zh6 := Kh6.1
 have la5 : (a5 : Nat) < h6.size := Aa5.lt
 have f7 : Fld Z h6 a5 "java/lang/String" "value" "[B" .null := Da5 (Or.inr (w22 hw)) (ty := (.array .byte)) (by decide)
 have f8 : Fld Z h6 a5 "java/lang/String" "coder" "B" (.int 0) := Da5 (Or.inr (w23 hw)) (ty := .byte) (by decide)
 refine Ow.dup (pc' := 34) B e1_33 ?_
 refine Ow.aload (pc' := 36) B e1_34 ?_
 refine Ow.Go.old (fun o9 => ?_)
 have f10 := V4.keep Kh6 Ow.nin0
 refine Ow.callInit (pc' := 39) (W := 1) (k' := 4) (n' := 8) (argsL := [(.ref a1)]) (rest := [(.ref a5)]) B e1_36 (w10 hw) (w11 hw) (w8 hw) (w12 hw) (con_init_16 hw G GS (pa0 := a5) (pa1 := a1) (px0 := px0) (pk0 := ka1) o9 Aa5 f8 f7 f10 (by omega) (by omega) (hk0) (hk1) hc_px0) pd1 ?_
 intro vq11 h12 S13 q11 zh12
 obtain ⟨r14, k15, rfl, Kh12, br14, f16, rfl⟩ := q11
 have lr14 : (r14 : Nat) < h12.size := f16.ltt
 refine Ow.Go.nr (S' := [a5, a1]) (st' := [(.ref a5)]) ?_
 exact Ow.retA (S' := []) (t := (.object "java/lang/String")) B e1_39 (⟨a5, r14, k15, rfl, (((((Keep.refl _ []).trans Kh2 (fun _ q => nomatch q)).trans Kh3 (allS (Or.inr (by omega)) all0)).trans Kh6 (fun _ q => nomatch q)).trans Kh12 (allS (Or.inr (by omega)) all0)), (by omega), (by omega), (by omega), f16, rfl⟩)
set_option maxRecDepth 65536 in
set_option maxHeartbeats 40000000 in
theorem con_delimiter_18 (hw : Hw a0 Z) (G : Ow.Glo Z cz sf) (GS : GlS Z) {px0 : Int32} {h0 : Heap} (O0 : Old Z n0 h0) (hk0 : ¬ (px0 < (0 : Int32))) (hk1 : ¬ ((65535 : Int32) < px0)) (hc_px0 : nar .char px0 = px0) :
    Ow.Con l Z EL1 n0 my13 method_2_code 1 (Option.some Jvm.ClassFile.FieldType.boolean) [] ({ frames := 0, cells := 0, slots := 0, locals := 0 } : Room) #[(.int px0)] [] h0 (fun v h S' => (v = some (.int 1) ∧ h = h0 ∧ delP px0 ∧ S' = []) ∨ (v = some (.int 0) ∧ h = h0 ∧ ¬ (delP px0) ∧ S' = [])) := by
 refine Ow.Con.enter (Ls := #[.val (.int px0)]) (plainFor_of_name pn0) O0 (hEW hw) (hSA hw) ?_
 intro p e s m below meth c B
 have z0 := Ow.old_le O0
 have i0 := own_i0 (hk0)
 have i1 := own_i1 (hk1)
 refine Ow.iloadN (pc' := 1) B e14_0 ?_
 refine Ow.bipush (pc' := 3) (x := 34) B e14_1 ?_
 by_cases c1 : px0 = (34 : Int32)
 ·have c1i := c1
  simp only [Int32.lt_iff_toInt_lt, ← Int32.toInt_inj, Int32.reduceToInt] at c1i
  refine Ow.icmpT (pc' := 102) B e14_3 (teq c1).1 ?_
  refine Ow.iconst (pc' := 103) (x := 1) B e14_102 ?_
  refine Ow.goto (pc' := 107) B e14_103 ?_
  exact Ow.retI (S' := []) (t := .boolean) B e14_107 (Or.inl (⟨rfl, rfl, (by unfold delP; omega), rfl⟩))
 ·have c1i := c1
  simp only [Int32.lt_iff_toInt_lt, ← Int32.toInt_inj, Int32.reduceToInt] at c1i
  refine Ow.icmpF (pc' := 6) B e14_3 (feq c1).1 ?_
  refine Ow.iloadN (pc' := 7) B e14_6 ?_
  refine Ow.bipush (pc' := 9) (x := 40) B e14_7 ?_
  by_cases c2 : px0 = (40 : Int32)
  ·have c2i := c2
   simp only [Int32.lt_iff_toInt_lt, ← Int32.toInt_inj, Int32.reduceToInt] at c2i
   refine Ow.icmpT (pc' := 102) B e14_9 (teq c2).1 ?_
   refine Ow.iconst (pc' := 103) (x := 1) B e14_102 ?_
   refine Ow.goto (pc' := 107) B e14_103 ?_
   exact Ow.retI (S' := []) (t := .boolean) B e14_107 (Or.inl (⟨rfl, rfl, (by unfold delP; omega), rfl⟩))
  ·have c2i := c2
   simp only [Int32.lt_iff_toInt_lt, ← Int32.toInt_inj, Int32.reduceToInt] at c2i
   refine Ow.icmpF (pc' := 12) B e14_9 (feq c2).1 ?_
   refine Ow.iloadN (pc' := 13) B e14_12 ?_
   refine Ow.bipush (pc' := 15) (x := 41) B e14_13 ?_
   by_cases c3 : px0 = (41 : Int32)
   ·have c3i := c3
    simp only [Int32.lt_iff_toInt_lt, ← Int32.toInt_inj, Int32.reduceToInt] at c3i
    refine Ow.icmpT (pc' := 102) B e14_15 (teq c3).1 ?_
    refine Ow.iconst (pc' := 103) (x := 1) B e14_102 ?_
    refine Ow.goto (pc' := 107) B e14_103 ?_
    exact Ow.retI (S' := []) (t := .boolean) B e14_107 (Or.inl (⟨rfl, rfl, (by unfold delP; omega), rfl⟩))
   ·have c3i := c3
    simp only [Int32.lt_iff_toInt_lt, ← Int32.toInt_inj, Int32.reduceToInt] at c3i
    refine Ow.icmpF (pc' := 18) B e14_15 (feq c3).1 ?_
    refine Ow.iloadN (pc' := 19) B e14_18 ?_
    refine Ow.bipush (pc' := 21) (x := 44) B e14_19 ?_
    by_cases c4 : px0 = (44 : Int32)
    ·have c4i := c4
     simp only [Int32.lt_iff_toInt_lt, ← Int32.toInt_inj, Int32.reduceToInt] at c4i
     refine Ow.icmpT (pc' := 102) B e14_21 (teq c4).1 ?_
     refine Ow.iconst (pc' := 103) (x := 1) B e14_102 ?_
     refine Ow.goto (pc' := 107) B e14_103 ?_
     exact Ow.retI (S' := []) (t := .boolean) B e14_107 (Or.inl (⟨rfl, rfl, (by unfold delP; omega), rfl⟩))
    ·have c4i := c4
     simp only [Int32.lt_iff_toInt_lt, ← Int32.toInt_inj, Int32.reduceToInt] at c4i
     refine Ow.icmpF (pc' := 24) B e14_21 (feq c4).1 ?_
     refine Ow.iloadN (pc' := 25) B e14_24 ?_
     refine Ow.bipush (pc' := 27) (x := 47) B e14_25 ?_
     by_cases c5 : px0 = (47 : Int32)
     ·have c5i := c5
      simp only [Int32.lt_iff_toInt_lt, ← Int32.toInt_inj, Int32.reduceToInt] at c5i
      refine Ow.icmpT (pc' := 102) B e14_27 (teq c5).1 ?_
      refine Ow.iconst (pc' := 103) (x := 1) B e14_102 ?_
      refine Ow.goto (pc' := 107) B e14_103 ?_
      exact Ow.retI (S' := []) (t := .boolean) B e14_107 (Or.inl (⟨rfl, rfl, (by unfold delP; omega), rfl⟩))
     ·have c5i := c5
      simp only [Int32.lt_iff_toInt_lt, ← Int32.toInt_inj, Int32.reduceToInt] at c5i
      refine Ow.icmpF (pc' := 30) B e14_27 (feq c5).1 ?_
      refine Ow.iloadN (pc' := 31) B e14_30 ?_
      refine Ow.bipush (pc' := 33) (x := 58) B e14_31 ?_
      by_cases c6 : px0 = (58 : Int32)
      ·have c6i := c6
       simp only [Int32.lt_iff_toInt_lt, ← Int32.toInt_inj, Int32.reduceToInt] at c6i
       refine Ow.icmpT (pc' := 102) B e14_33 (teq c6).1 ?_
       refine Ow.iconst (pc' := 103) (x := 1) B e14_102 ?_
       refine Ow.goto (pc' := 107) B e14_103 ?_
       exact Ow.retI (S' := []) (t := .boolean) B e14_107 (Or.inl (⟨rfl, rfl, (by unfold delP; omega), rfl⟩))
      ·have c6i := c6
       simp only [Int32.lt_iff_toInt_lt, ← Int32.toInt_inj, Int32.reduceToInt] at c6i
       refine Ow.icmpF (pc' := 36) B e14_33 (feq c6).1 ?_
       refine Ow.iloadN (pc' := 37) B e14_36 ?_
       refine Ow.bipush (pc' := 39) (x := 59) B e14_37 ?_
       by_cases c7 : px0 = (59 : Int32)
       ·have c7i := c7
        simp only [Int32.lt_iff_toInt_lt, ← Int32.toInt_inj, Int32.reduceToInt] at c7i
        refine Ow.icmpT (pc' := 102) B e14_39 (teq c7).1 ?_
        refine Ow.iconst (pc' := 103) (x := 1) B e14_102 ?_
        refine Ow.goto (pc' := 107) B e14_103 ?_
        exact Ow.retI (S' := []) (t := .boolean) B e14_107 (Or.inl (⟨rfl, rfl, (by unfold delP; omega), rfl⟩))
       ·have c7i := c7
        simp only [Int32.lt_iff_toInt_lt, ← Int32.toInt_inj, Int32.reduceToInt] at c7i
        refine Ow.icmpF (pc' := 42) B e14_39 (feq c7).1 ?_
        refine Ow.iloadN (pc' := 43) B e14_42 ?_
        refine Ow.bipush (pc' := 45) (x := 60) B e14_43 ?_
        by_cases c8 : px0 = (60 : Int32)
        ·have c8i := c8
         simp only [Int32.lt_iff_toInt_lt, ← Int32.toInt_inj, Int32.reduceToInt] at c8i
         refine Ow.icmpT (pc' := 102) B e14_45 (teq c8).1 ?_
         refine Ow.iconst (pc' := 103) (x := 1) B e14_102 ?_
         refine Ow.goto (pc' := 107) B e14_103 ?_
         exact Ow.retI (S' := []) (t := .boolean) B e14_107 (Or.inl (⟨rfl, rfl, (by unfold delP; omega), rfl⟩))
        ·have c8i := c8
         simp only [Int32.lt_iff_toInt_lt, ← Int32.toInt_inj, Int32.reduceToInt] at c8i
         refine Ow.icmpF (pc' := 48) B e14_45 (feq c8).1 ?_
         refine Ow.iloadN (pc' := 49) B e14_48 ?_
         refine Ow.bipush (pc' := 51) (x := 61) B e14_49 ?_
         by_cases c9 : px0 = (61 : Int32)
         ·have c9i := c9
          simp only [Int32.lt_iff_toInt_lt, ← Int32.toInt_inj, Int32.reduceToInt] at c9i
          refine Ow.icmpT (pc' := 102) B e14_51 (teq c9).1 ?_
          refine Ow.iconst (pc' := 103) (x := 1) B e14_102 ?_
          refine Ow.goto (pc' := 107) B e14_103 ?_
          exact Ow.retI (S' := []) (t := .boolean) B e14_107 (Or.inl (⟨rfl, rfl, (by unfold delP; omega), rfl⟩))
         ·have c9i := c9
          simp only [Int32.lt_iff_toInt_lt, ← Int32.toInt_inj, Int32.reduceToInt] at c9i
          refine Ow.icmpF (pc' := 54) B e14_51 (feq c9).1 ?_
          refine Ow.iloadN (pc' := 55) B e14_54 ?_
          refine Ow.bipush (pc' := 57) (x := 62) B e14_55 ?_
          by_cases c10 : px0 = (62 : Int32)
          ·have c10i := c10
           simp only [Int32.lt_iff_toInt_lt, ← Int32.toInt_inj, Int32.reduceToInt] at c10i
           refine Ow.icmpT (pc' := 102) B e14_57 (teq c10).1 ?_
           refine Ow.iconst (pc' := 103) (x := 1) B e14_102 ?_
           refine Ow.goto (pc' := 107) B e14_103 ?_
           exact Ow.retI (S' := []) (t := .boolean) B e14_107 (Or.inl (⟨rfl, rfl, (by unfold delP; omega), rfl⟩))
          ·have c10i := c10
           simp only [Int32.lt_iff_toInt_lt, ← Int32.toInt_inj, Int32.reduceToInt] at c10i
           refine Ow.icmpF (pc' := 60) B e14_57 (feq c10).1 ?_
           refine Ow.iloadN (pc' := 61) B e14_60 ?_
           refine Ow.bipush (pc' := 63) (x := 63) B e14_61 ?_
           by_cases c11 : px0 = (63 : Int32)
           ·have c11i := c11
            simp only [Int32.lt_iff_toInt_lt, ← Int32.toInt_inj, Int32.reduceToInt] at c11i
            refine Ow.icmpT (pc' := 102) B e14_63 (teq c11).1 ?_
            refine Ow.iconst (pc' := 103) (x := 1) B e14_102 ?_
            refine Ow.goto (pc' := 107) B e14_103 ?_
            exact Ow.retI (S' := []) (t := .boolean) B e14_107 (Or.inl (⟨rfl, rfl, (by unfold delP; omega), rfl⟩))
           ·have c11i := c11
            simp only [Int32.lt_iff_toInt_lt, ← Int32.toInt_inj, Int32.reduceToInt] at c11i
            refine Ow.icmpF (pc' := 66) B e14_63 (feq c11).1 ?_
            refine Ow.iloadN (pc' := 67) B e14_66 ?_
            refine Ow.bipush (pc' := 69) (x := 64) B e14_67 ?_
            by_cases c12 : px0 = (64 : Int32)
            ·have c12i := c12
             simp only [Int32.lt_iff_toInt_lt, ← Int32.toInt_inj, Int32.reduceToInt] at c12i
             refine Ow.icmpT (pc' := 102) B e14_69 (teq c12).1 ?_
             refine Ow.iconst (pc' := 103) (x := 1) B e14_102 ?_
             refine Ow.goto (pc' := 107) B e14_103 ?_
             exact Ow.retI (S' := []) (t := .boolean) B e14_107 (Or.inl (⟨rfl, rfl, (by unfold delP; omega), rfl⟩))
            ·have c12i := c12
             simp only [Int32.lt_iff_toInt_lt, ← Int32.toInt_inj, Int32.reduceToInt] at c12i
             refine Ow.icmpF (pc' := 72) B e14_69 (feq c12).1 ?_
             refine Ow.iloadN (pc' := 73) B e14_72 ?_
             refine Ow.bipush (pc' := 75) (x := 91) B e14_73 ?_
             by_cases c13 : px0 = (91 : Int32)
             ·have c13i := c13
              simp only [Int32.lt_iff_toInt_lt, ← Int32.toInt_inj, Int32.reduceToInt] at c13i
              refine Ow.icmpT (pc' := 102) B e14_75 (teq c13).1 ?_
              refine Ow.iconst (pc' := 103) (x := 1) B e14_102 ?_
              refine Ow.goto (pc' := 107) B e14_103 ?_
              exact Ow.retI (S' := []) (t := .boolean) B e14_107 (Or.inl (⟨rfl, rfl, (by unfold delP; omega), rfl⟩))
             ·have c13i := c13
              simp only [Int32.lt_iff_toInt_lt, ← Int32.toInt_inj, Int32.reduceToInt] at c13i
              refine Ow.icmpF (pc' := 78) B e14_75 (feq c13).1 ?_
              refine Ow.iloadN (pc' := 79) B e14_78 ?_
              refine Ow.bipush (pc' := 81) (x := 92) B e14_79 ?_
              by_cases c14 : px0 = (92 : Int32)
              ·have c14i := c14
               simp only [Int32.lt_iff_toInt_lt, ← Int32.toInt_inj, Int32.reduceToInt] at c14i
               refine Ow.icmpT (pc' := 102) B e14_81 (teq c14).1 ?_
               refine Ow.iconst (pc' := 103) (x := 1) B e14_102 ?_
               refine Ow.goto (pc' := 107) B e14_103 ?_
               exact Ow.retI (S' := []) (t := .boolean) B e14_107 (Or.inl (⟨rfl, rfl, (by unfold delP; omega), rfl⟩))
              ·have c14i := c14
               simp only [Int32.lt_iff_toInt_lt, ← Int32.toInt_inj, Int32.reduceToInt] at c14i
               refine Ow.icmpF (pc' := 84) B e14_81 (feq c14).1 ?_
               refine Ow.iloadN (pc' := 85) B e14_84 ?_
               refine Ow.bipush (pc' := 87) (x := 93) B e14_85 ?_
               by_cases c15 : px0 = (93 : Int32)
               ·have c15i := c15
                simp only [Int32.lt_iff_toInt_lt, ← Int32.toInt_inj, Int32.reduceToInt] at c15i
                refine Ow.icmpT (pc' := 102) B e14_87 (teq c15).1 ?_
                refine Ow.iconst (pc' := 103) (x := 1) B e14_102 ?_
                refine Ow.goto (pc' := 107) B e14_103 ?_
                exact Ow.retI (S' := []) (t := .boolean) B e14_107 (Or.inl (⟨rfl, rfl, (by unfold delP; omega), rfl⟩))
               ·have c15i := c15
                simp only [Int32.lt_iff_toInt_lt, ← Int32.toInt_inj, Int32.reduceToInt] at c15i
                refine Ow.icmpF (pc' := 90) B e14_87 (feq c15).1 ?_
                refine Ow.iloadN (pc' := 91) B e14_90 ?_
                refine Ow.bipush (pc' := 93) (x := 123) B e14_91 ?_
                by_cases c16 : px0 = (123 : Int32)
                ·have c16i := c16
                 simp only [Int32.lt_iff_toInt_lt, ← Int32.toInt_inj, Int32.reduceToInt] at c16i
                 refine Ow.icmpT (pc' := 102) B e14_93 (teq c16).1 ?_
                 refine Ow.iconst (pc' := 103) (x := 1) B e14_102 ?_
                 refine Ow.goto (pc' := 107) B e14_103 ?_
                 exact Ow.retI (S' := []) (t := .boolean) B e14_107 (Or.inl (⟨rfl, rfl, (by unfold delP; omega), rfl⟩))
                ·have c16i := c16
                 simp only [Int32.lt_iff_toInt_lt, ← Int32.toInt_inj, Int32.reduceToInt] at c16i
                 refine Ow.icmpF (pc' := 96) B e14_93 (feq c16).1 ?_
                 refine Ow.iloadN (pc' := 97) B e14_96 ?_
                 refine Ow.bipush (pc' := 99) (x := 125) B e14_97 ?_
                 by_cases c17 : px0 = (125 : Int32)
                 ·have c17i := c17
                  simp only [Int32.lt_iff_toInt_lt, ← Int32.toInt_inj, Int32.reduceToInt] at c17i
                  refine Ow.icmpF (pc' := 102) B e14_99 (teq c17).2 ?_
                  refine Ow.iconst (pc' := 103) (x := 1) B e14_102 ?_
                  refine Ow.goto (pc' := 107) B e14_103 ?_
                  exact Ow.retI (S' := []) (t := .boolean) B e14_107 (Or.inl (⟨rfl, rfl, (by unfold delP; omega), rfl⟩))
                 ·have c17i := c17
                  simp only [Int32.lt_iff_toInt_lt, ← Int32.toInt_inj, Int32.reduceToInt] at c17i
                  refine Ow.icmpT (pc' := 106) B e14_99 (feq c17).2 ?_
                  refine Ow.iconst (pc' := 107) (x := 0) B e14_106 ?_
                  exact Ow.retI (S' := []) (t := .boolean) B e14_107 (Or.inr (⟨rfl, rfl, (by unfold delP; omega), rfl⟩))
set_option maxRecDepth 65536 in
set_option maxHeartbeats 40000000 in
theorem con_tchar_19 (hw : Hw a0 Z) (G : Ow.Glo Z cz sf) (GS : GlS Z) {px0 : Int32} {h0 : Heap} (O0 : Old Z n0 h0) (hk0 : ¬ (px0 < (0 : Int32))) (hk1 : ¬ ((65535 : Int32) < px0)) (hc_px0 : nar .char px0 = px0) :
    Ow.Con l Z EL1 n0 my14 method_3_code 1 (Option.some Jvm.ClassFile.FieldType.boolean) [] ({ frames := 1, cells := 0, slots := 0, locals := 12 } : Room) #[(.int px0)] [] h0 (fun v h S' => (v = some (.int 0) ∧ h = h0 ∧ ¬ (tokP px0) ∧ S' = []) ∨ (v = some (.int 1) ∧ h = h0 ∧ tokP px0 ∧ S' = [])) := by
 refine Ow.Con.enter (Ls := #[.val (.int px0)]) (plainFor_of_name pn0) O0 (hEW hw) (hSA hw) ?_
 intro p e s m below meth c B
 have z0 := Ow.old_le O0
 have i0 := own_i0 (hk0)
 have i1 := own_i1 (hk1)
 refine Ow.iloadN (pc' := 1) B e13_0 ?_
 refine Ow.bipush (pc' := 3) (x := 33) B e13_1 ?_
 by_cases c1 : px0 < (33 : Int32)
 ·have c1i := c1
  simp only [Int32.lt_iff_toInt_lt, ← Int32.toInt_inj, Int32.reduceToInt] at c1i
  refine Ow.icmpT (pc' := 23) B e13_3 (tlt c1).1 ?_
  refine Ow.iconst (pc' := 24) (x := 0) B e13_23 ?_
  exact Ow.retI (S' := []) (t := .boolean) B e13_24 (Or.inl (⟨rfl, rfl, (by unfold tokP alP symP; omega), rfl⟩))
 ·have c1i := c1
  simp only [Int32.lt_iff_toInt_lt, ← Int32.toInt_inj, Int32.reduceToInt] at c1i
  refine Ow.icmpF (pc' := 6) B e13_3 (flt c1).1 ?_
  refine Ow.iloadN (pc' := 7) B e13_6 ?_
  refine Ow.bipush (pc' := 9) (x := 126) B e13_7 ?_
  by_cases c2 : (126 : Int32) < px0
  ·have c2i := c2
   simp only [Int32.lt_iff_toInt_lt, ← Int32.toInt_inj, Int32.reduceToInt] at c2i
   refine Ow.icmpT (pc' := 23) B e13_9 (tlt c2).2.2.1 ?_
   refine Ow.iconst (pc' := 24) (x := 0) B e13_23 ?_
   exact Ow.retI (S' := []) (t := .boolean) B e13_24 (Or.inl (⟨rfl, rfl, (by unfold tokP alP symP; omega), rfl⟩))
  ·have c2i := c2
   simp only [Int32.lt_iff_toInt_lt, ← Int32.toInt_inj, Int32.reduceToInt] at c2i
   refine Ow.icmpF (pc' := 12) B e13_9 (flt c2).2.2.1 ?_
   refine Ow.iloadN (pc' := 13) B e13_12 ?_
   refine Ow.Go.old (fun o3 => ?_)
   refine Ow.callStatic (pc' := 16) (W := 0) (k' := 0) (n' := 0) (argsL := [(.int px0)]) (rest := []) B e13_13 (w111 hw) (w112 hw) (w4 hw) (w113 hw) (con_delimiter_18 hw G GS (px0 := px0) o3 (hk0) (hk1) hc_px0) pd12 ?_
   intro vq4 h5 S6 q4 zh5
   rcases q4 with q4 | q4
   ·obtain ⟨rfl, rfl, c7, rfl⟩ := q4
    refine Ow.Go.nr (S' := []) (st' := [(.int 1)]) ?_
    have hdl := c7
    unfold delP at hdl
    refine Ow.ifT (pc' := 23) B e13_16 (by decide) ?_
    refine Ow.iconst (pc' := 24) (x := 0) B e13_23 ?_
    exact Ow.retI (S' := []) (t := .boolean) B e13_24 (Or.inl (⟨rfl, rfl, (by unfold tokP alP symP; omega), rfl⟩))
   ·obtain ⟨rfl, rfl, c8, rfl⟩ := q4
    refine Ow.Go.nr (S' := []) (st' := [(.int 0)]) ?_
    have hdl := c8
    unfold delP at hdl
    refine Ow.ifF (pc' := 19) B e13_16 (by decide) ?_
    refine Ow.iconst (pc' := 20) (x := 1) B e13_19 ?_
    refine Ow.goto (pc' := 24) B e13_20 ?_
    exact Ow.retI (S' := []) (t := .boolean) B e13_24 (Or.inr (⟨rfl, rfl, (by unfold tokP alP symP; omega), rfl⟩))
set_option maxRecDepth 65536 in
set_option maxHeartbeats 40000000 in
theorem con_isEmpty_20 (hw : Hw a0 Z) (G : Ow.Glo Z cz sf) (GS : GlS Z) {pa0 : Nat} {pa1 : Nat} {px0 : Int32} {pk0 : ClassId} {h0 : Heap} (O0 : Old Z n0 h0) (hf0 : Ow.Chs Z h0 pa0 pa1 pk0 [px0]) (hn0 : n0 ≤ pa0) (hn1 : n0 ≤ pa1) (hc_px0 : nar .char px0 = px0) :
    Ow.Con l Z EL1 n0 my3 jdk_42_method_55_code 1 (Option.some Jvm.ClassFile.FieldType.boolean) [] ({ frames := 0, cells := 0, slots := 0, locals := 0 } : Room) #[(.ref pa0)] [] h0 (fun v h S' => (v = some (.int 0) ∧ h = h0 ∧ S' = [])) := by
 rcases hf0.2.2.2 with ⟨oc_hf0, oa_hf0, ol_hf0⟩ | ⟨oc_hf0, oa_hf0, ou_hf0⟩
 ·refine Ow.Con.enter (Ls := #[.val (.ref pa0)]) (plainFor_of_name pn1) O0 (hEW hw) (hSA hw) ?_
  intro p e s m below meth c B
  have z0 := Ow.old_le O0
  have oE_hf0 := hf0.1
  have oV_hf0 := hf0.2.1
  have oR_hf0 := hf0.2.2.1
  have oA_hf0 : Arv Z h0 pa1 pk0 .byte (1 : Int32) [(.int px0.toInt8.toInt32)] (.int 0) := oa_hf0
  have lpa0 : (pa0 : Nat) < h0.size := hf0.lt
  have lpa1 : (pa1 : Nat) < h0.size := oA_hf0.lt
  have lpa1 : (pa1 : Nat) < h0.size := hf0.ltt
  refine Ow.aloadN (pc' := 1) B e4_0 ?_
  refine Ow.getfield (pc' := 4) B e4_1 (w26 hw) Via.refl oV_hf0 ?_
  refine Ow.arrlen (pc' := 5) B e4_4 oA_hf0 ?_
  refine Ow.ifT (pc' := 12) B e4_5 (by decide) ?_
  refine Ow.iconst (pc' := 13) (x := 0) B e4_12 ?_
  exact Ow.retI (S' := []) (t := .boolean) B e4_13 (⟨rfl, rfl, rfl⟩)
 ·refine Ow.Con.enter (Ls := #[.val (.ref pa0)]) (plainFor_of_name pn1) O0 (hEW hw) (hSA hw) ?_
  intro p e s m below meth c B
  have z0 := Ow.old_le O0
  have oE_hf0 := hf0.1
  have oV_hf0 := hf0.2.1
  have oR_hf0 := hf0.2.2.1
  have oA_hf0 : Arv Z h0 pa1 pk0 .byte (2 : Int32) [(.int px0.toInt8.toInt32), (.int (px0 >>> ((8 : Int32) &&& 31)).toInt8.toInt32)] (.int 0) := oa_hf0
  have lpa0 : (pa0 : Nat) < h0.size := hf0.lt
  have lpa1 : (pa1 : Nat) < h0.size := oA_hf0.lt
  have lpa1 : (pa1 : Nat) < h0.size := hf0.ltt
  refine Ow.aloadN (pc' := 1) B e4_0 ?_
  refine Ow.getfield (pc' := 4) B e4_1 (w26 hw) Via.refl oV_hf0 ?_
  refine Ow.arrlen (pc' := 5) B e4_4 oA_hf0 ?_
  refine Ow.ifT (pc' := 12) B e4_5 (by decide) ?_
  refine Ow.iconst (pc' := 13) (x := 0) B e4_12 ?_
  exact Ow.retI (S' := []) (t := .boolean) B e4_13 (⟨rfl, rfl, rfl⟩)
set_option maxRecDepth 65536 in
set_option maxHeartbeats 40000000 in
theorem con_coder_21 (hw : Hw a0 Z) (G : Ow.Glo Z cz sf) (GS : GlS Z) {pa0 : Nat} {h0 : Heap} (O0 : Old Z n0 h0) (hf0 : Fld Z h0 pa0 "java/lang/String" "coder" "B" (.int 0)) (hn0 : n0 ≤ pa0) :
    Ow.Con l Z EL1 n0 my15 jdk_42_method_152_code 1 (Option.some Jvm.ClassFile.FieldType.byte) [] ({ frames := 0, cells := 0, slots := 0, locals := 0 } : Room) #[(.ref pa0)] [] h0 (fun v h S' => (v = some (.int 0) ∧ h = h0 ∧ S' = [])) := by
 refine Ow.Con.enter (Ls := #[.val (.ref pa0)]) (plainFor_of_name pn1) O0 (hEW hw) (hSA hw) ?_
 intro p e s m below meth c B
 have z0 := Ow.old_le O0
 have lpa0 : (pa0 : Nat) < h0.size := hf0.lt
 refine Ow.getstatic (pc' := 3) B e16_0 (w37 hw) Via.refl G.1 ?_
 refine Ow.ifF (pc' := 6) B e16_3 (feq (G.2.1)).1 ?_
 refine Ow.aloadN (pc' := 7) B e16_6 ?_
 refine Ow.getfield (pc' := 10) B e16_7 (w27 hw) Via.refl hf0 ?_
 refine Ow.goto (pc' := 14) B e16_10 ?_
 exact Ow.retI (S' := []) (t := .byte) B e16_14 (⟨rfl, rfl, rfl⟩)
set_option maxRecDepth 65536 in
set_option maxHeartbeats 40000000 in
theorem con_coder_22 (hw : Hw a0 Z) (G : Ow.Glo Z cz sf) (GS : GlS Z) {pa0 : Nat} {h0 : Heap} (O0 : Old Z n0 h0) (hf0 : Fld Z h0 pa0 "java/lang/String" "coder" "B" (.int 1)) (hn0 : n0 ≤ pa0) :
    Ow.Con l Z EL1 n0 my15 jdk_42_method_152_code 1 (Option.some Jvm.ClassFile.FieldType.byte) [] ({ frames := 0, cells := 0, slots := 0, locals := 0 } : Room) #[(.ref pa0)] [] h0 (fun v h S' => (v = some (.int 1) ∧ h = h0 ∧ S' = [])) := by
 refine Ow.Con.enter (Ls := #[.val (.ref pa0)]) (plainFor_of_name pn1) O0 (hEW hw) (hSA hw) ?_
 intro p e s m below meth c B
 have z0 := Ow.old_le O0
 have lpa0 : (pa0 : Nat) < h0.size := hf0.lt
 refine Ow.getstatic (pc' := 3) B e16_0 (w37 hw) Via.refl G.1 ?_
 refine Ow.ifF (pc' := 6) B e16_3 (feq (G.2.1)).1 ?_
 refine Ow.aloadN (pc' := 7) B e16_6 ?_
 refine Ow.getfield (pc' := 10) B e16_7 (w27 hw) Via.refl hf0 ?_
 refine Ow.goto (pc' := 14) B e16_10 ?_
 exact Ow.retI (S' := []) (t := .byte) B e16_14 (⟨rfl, rfl, rfl⟩)
set_option maxRecDepth 65536 in
set_option maxHeartbeats 40000000 in
theorem con_length_23 (hw : Hw a0 Z) (G : Ow.Glo Z cz sf) (GS : GlS Z) {pa0 : Nat} {pa1 : Nat} {px0 : Int32} {pk0 : ClassId} {h0 : Heap} (O0 : Old Z n0 h0) (hf0 : Ow.Chs Z h0 pa0 pa1 pk0 [px0]) (hn0 : n0 ≤ pa0) (hn1 : n0 ≤ pa1) (hc_px0 : nar .char px0 = px0) :
    Ow.Con l Z EL1 n0 my16 jdk_42_method_54_code 1 (Option.some Jvm.ClassFile.FieldType.int) [] ({ frames := 1, cells := 0, slots := 0, locals := 13 } : Room) #[(.ref pa0)] [] h0 (fun v h S' => (v = some (.int 1) ∧ h = h0 ∧ S' = [])) := by
 rcases hf0.2.2.2 with ⟨oc_hf0, oa_hf0, ol_hf0⟩ | ⟨oc_hf0, oa_hf0, ou_hf0⟩
 ·refine Ow.Con.enter (Ls := #[.val (.ref pa0)]) (plainFor_of_name pn1) O0 (hEW hw) (hSA hw) ?_
  intro p e s m below meth c B
  have z0 := Ow.old_le O0
  have oE_hf0 := hf0.1
  have oV_hf0 := hf0.2.1
  have oR_hf0 := hf0.2.2.1
  have oA_hf0 : Arv Z h0 pa1 pk0 .byte (1 : Int32) [(.int px0.toInt8.toInt32)] (.int 0) := oa_hf0
  have lpa0 : (pa0 : Nat) < h0.size := hf0.lt
  have lpa1 : (pa1 : Nat) < h0.size := oA_hf0.lt
  have lpa1 : (pa1 : Nat) < h0.size := hf0.ltt
  refine Ow.aloadN (pc' := 1) B e15_0 ?_
  refine Ow.getfield (pc' := 4) B e15_1 (w26 hw) Via.refl oV_hf0 ?_
  refine Ow.arrlen (pc' := 5) B e15_4 oA_hf0 ?_
  refine Ow.aloadN (pc' := 6) B e15_5 ?_
  refine Ow.Go.old (fun o1 => ?_)
  refine Ow.callVirtual (pc' := 9) (W := 1) (k' := 0) (n' := 0) (argsL := []) (rest := [(.int 1)]) (K := "java/lang/String") B e15_6 (w56 hw) (w57 hw) (w59 hw) (w59 hw) (w58 hw) (w8 hw) (w60 hw) oE_hf0 (con_coder_21 hw G GS (pa0 := pa0) o1 oc_hf0 (by omega)) pd13 ?_
  intro vq2 h3 S4 q2 zh3
  obtain ⟨rfl, rfl, rfl⟩ := q2
  refine Ow.Go.nr (S' := []) (st' := [(.int 0), (.int 1)]) ?_
  refine Ow.ishr (pc' := 10) (z := 1) B e15_9 ?_
  exact Ow.retI (S' := []) (t := .int) B e15_10 (⟨rfl, rfl, rfl⟩)
 ·refine Ow.Con.enter (Ls := #[.val (.ref pa0)]) (plainFor_of_name pn1) O0 (hEW hw) (hSA hw) ?_
  intro p e s m below meth c B
  have z0 := Ow.old_le O0
  have oE_hf0 := hf0.1
  have oV_hf0 := hf0.2.1
  have oR_hf0 := hf0.2.2.1
  have oA_hf0 : Arv Z h0 pa1 pk0 .byte (2 : Int32) [(.int px0.toInt8.toInt32), (.int (px0 >>> ((8 : Int32) &&& 31)).toInt8.toInt32)] (.int 0) := oa_hf0
  have lpa0 : (pa0 : Nat) < h0.size := hf0.lt
  have lpa1 : (pa1 : Nat) < h0.size := oA_hf0.lt
  have lpa1 : (pa1 : Nat) < h0.size := hf0.ltt
  refine Ow.aloadN (pc' := 1) B e15_0 ?_
  refine Ow.getfield (pc' := 4) B e15_1 (w26 hw) Via.refl oV_hf0 ?_
  refine Ow.arrlen (pc' := 5) B e15_4 oA_hf0 ?_
  refine Ow.aloadN (pc' := 6) B e15_5 ?_
  refine Ow.Go.old (fun o1 => ?_)
  refine Ow.callVirtual (pc' := 9) (W := 1) (k' := 0) (n' := 0) (argsL := []) (rest := [(.int 2)]) (K := "java/lang/String") B e15_6 (w56 hw) (w57 hw) (w59 hw) (w59 hw) (w58 hw) (w8 hw) (w60 hw) oE_hf0 (con_coder_22 hw G GS (pa0 := pa0) o1 oc_hf0 (by omega)) pd13 ?_
  intro vq2 h3 S4 q2 zh3
  obtain ⟨rfl, rfl, rfl⟩ := q2
  refine Ow.Go.nr (S' := []) (st' := [(.int 1), (.int 2)]) ?_
  refine Ow.ishr (pc' := 10) (z := 1) B e15_9 ?_
  exact Ow.retI (S' := []) (t := .int) B e15_10 (⟨rfl, rfl, rfl⟩)
set_option maxRecDepth 65536 in
set_option maxHeartbeats 40000000 in
theorem con_isLatin1_24 (hw : Hw a0 Z) (G : Ow.Glo Z cz sf) (GS : GlS Z) {pa0 : Nat} {h0 : Heap} (O0 : Old Z n0 h0) (hf0 : Fld Z h0 pa0 "java/lang/String" "coder" "B" (.int 0)) (hn0 : n0 ≤ pa0) :
    Ow.Con l Z EL1 n0 my17 jdk_42_method_154_code 1 (Option.some Jvm.ClassFile.FieldType.boolean) [] ({ frames := 0, cells := 0, slots := 0, locals := 0 } : Room) #[(.ref pa0)] [] h0 (fun v h S' => (v = some (.int 1) ∧ h = h0 ∧ S' = [])) := by
 refine Ow.Con.enter (Ls := #[.val (.ref pa0)]) (plainFor_of_name pn1) O0 (hEW hw) (hSA hw) ?_
 intro p e s m below meth c B
 have z0 := Ow.old_le O0
 have lpa0 : (pa0 : Nat) < h0.size := hf0.lt
 refine Ow.getstatic (pc' := 3) B e18_0 (w37 hw) Via.refl G.1 ?_
 refine Ow.ifF (pc' := 6) B e18_3 (feq (G.2.1)).1 ?_
 refine Ow.aloadN (pc' := 7) B e18_6 ?_
 refine Ow.getfield (pc' := 10) B e18_7 (w27 hw) Via.refl hf0 ?_
 refine Ow.ifF (pc' := 13) B e18_10 (by decide) ?_
 refine Ow.iconst (pc' := 14) (x := 1) B e18_13 ?_
 refine Ow.goto (pc' := 18) B e18_14 ?_
 exact Ow.retI (S' := []) (t := .boolean) B e18_18 (⟨rfl, rfl, rfl⟩)
set_option maxRecDepth 65536 in
set_option maxHeartbeats 40000000 in
theorem con_checkIndex_25 (hw : Hw a0 Z) (G : Ow.Glo Z cz sf) (GS : GlS Z) {px0 : Int32} {px1 : Int32} {pv0 : Value} {h0 : Heap} (O0 : Old Z n0 h0) (hk0 : ¬ (px0 < (0 : Int32))) (hk1 : px0 < px1) (hv_pv0 : pv0.isRef = true) :
    Ow.Con l Z EL1 n0 my18 jdk_41_method_11_code 3 (Option.some Jvm.ClassFile.FieldType.int) [] ({ frames := 0, cells := 0, slots := 0, locals := 0 } : Room) #[(.int px0), (.int px1), pv0] [] h0 (fun v h S' => (v = some (.int px0) ∧ h = h0 ∧ S' = [])) := by
 rcases ref_cases hv_pv0 with rfl | ⟨sa_pv0, rfl⟩
 ·refine Ow.Con.enter (Ls := #[.val (.int px0), .val (.int px1), .val .null]) (plainFor_of_name pn5) O0 (hEW hw) (hSA hw) ?_
  intro p e s m below meth c B
  have z0 := Ow.old_le O0
  refine Ow.iloadN (pc' := 1) B e21_0 ?_
  refine Ow.ifF (pc' := 4) B e21_1 (flt (hk0)).1 ?_
  refine Ow.iloadN (pc' := 5) B e21_4 ?_
  refine Ow.iloadN (pc' := 6) B e21_5 ?_
  refine Ow.icmpT (pc' := 16) B e21_6 (tlt (hk1)).1 ?_
  refine Ow.iloadN (pc' := 17) B e21_16 ?_
  exact Ow.retI (S' := []) (t := .int) B e21_17 (⟨rfl, rfl, rfl⟩)
 ·refine Ow.Con.enter (Ls := #[.val (.int px0), .val (.int px1), .val (.ref sa_pv0)]) (plainFor_of_name pn5) O0 (hEW hw) (hSA hw) ?_
  intro p e s m below meth c B
  have z0 := Ow.old_le O0
  refine Ow.iloadN (pc' := 1) B e21_0 ?_
  refine Ow.ifF (pc' := 4) B e21_1 (flt (hk0)).1 ?_
  refine Ow.iloadN (pc' := 5) B e21_4 ?_
  refine Ow.iloadN (pc' := 6) B e21_5 ?_
  refine Ow.icmpT (pc' := 16) B e21_6 (tlt (hk1)).1 ?_
  refine Ow.iloadN (pc' := 17) B e21_16 ?_
  exact Ow.retI (S' := []) (t := .int) B e21_17 (⟨rfl, rfl, rfl⟩)
set_option maxRecDepth 65536 in
set_option maxHeartbeats 40000000 in
theorem con_checkIndex_26 (hw : Hw a0 Z) (G : Ow.Glo Z cz sf) (GS : GlS Z) {px0 : Int32} {px1 : Int32} {h0 : Heap} (O0 : Old Z n0 h0) (hk0 : ¬ (px0 < (0 : Int32))) (hk1 : px0 < px1) :
    Ow.Con l Z EL1 n0 my19 jdk_42_method_155_code 2 (Option.none : Option Jvm.ClassFile.FieldType) [] ({ frames := 1, cells := 0, slots := 0, locals := 14 } : Room) #[(.int px0), (.int px1)] [] h0 (fun v h S' => (v = none ∧ h = h0 ∧ S' = [])) := by
 refine Ow.Con.enter (Ls := #[.val (.int px0), .val (.int px1)]) (plainFor_of_name pn1) O0 (hEW hw) (hSA hw) ?_
 intro p e s m below meth c B
 have z0 := Ow.old_le O0
 refine Ow.iloadN (pc' := 1) B e20_0 ?_
 refine Ow.iloadN (pc' := 2) B e20_1 ?_
 refine Ow.getstatic (pc' := 5) B e20_2 (w78 hw) Via.refl G.2.2.1 ?_
 refine Ow.Go.old (fun o1 => ?_)
 refine Ow.callStatic (pc' := 8) (W := 0) (k' := 0) (n' := 0) (argsL := [(.int px0), (.int px1), sf]) (rest := []) B e20_5 (w80 hw) (w81 hw) (w79 hw) (w82 hw) (con_checkIndex_25 hw G GS (px0 := px0) (px1 := px1) (pv0 := sf) o1 (hk0) (hk1) (G.2.2.2)) pd15 ?_
 intro vq2 h3 S4 q2 zh3
 obtain ⟨rfl, rfl, rfl⟩ := q2
 refine Ow.Go.nr (S' := []) (st' := [(.int px0)]) ?_
 refine Ow.pop (pc' := 9) B e20_8 ?_
 exact Ow.retV (S' := []) B e20_9 (⟨rfl, rfl, rfl⟩)
set_option maxRecDepth 65536 in
set_option maxHeartbeats 40000000 in
theorem con_charAt_27 (hw : Hw a0 Z) (G : Ow.Glo Z cz sf) (GS : GlS Z) {pa0 : Nat} {px0 : Int32} {pk0 : ClassId} {h0 : Heap} (O0 : Old Z n0 h0) (hf0 : Arv Z h0 pa0 pk0 .byte (1 : Int32) [(.int px0.toInt8.toInt32)] (.int 0)) (hn0 : n0 ≤ pa0) (hk0 : ¬ (px0 < (0 : Int32))) (hk1 : ¬ ((255 : Int32) < px0)) (hc_px0 : nar .char px0 = px0) :
    Ow.Con l Z EL1 n0 my20 jdk_43_method_2_code 2 (Option.some Jvm.ClassFile.FieldType.char) [] ({ frames := 2, cells := 0, slots := 0, locals := 27 } : Room) #[(.ref pa0), (.int 0)] [] h0 (fun v h S' => (v = some (.int px0) ∧ h = h0 ∧ S' = [])) := by
 refine Ow.Con.enter (Ls := #[.val (.ref pa0), .val (.int 0)]) (plainFor_of_name pn4) O0 (hEW hw) (hSA hw) ?_
 intro p e s m below meth c B
 have z0 := Ow.old_le O0
 have lpa0 : (pa0 : Nat) < h0.size := hf0.lt
 refine Ow.iloadN (pc' := 1) B e19_0 ?_
 refine Ow.aloadN (pc' := 2) B e19_1 ?_
 refine Ow.arrlen (pc' := 3) B e19_2 hf0 ?_
 refine Ow.Go.old (fun o1 => ?_)
 refine Ow.callStatic (pc' := 6) (W := 0) (k' := 0) (n' := 0) (argsL := [(.int 0), (.int 1)]) (rest := []) B e19_3 (w75 hw) (w76 hw) (w8 hw) (w77 hw) (con_checkIndex_26 hw G GS (px0 := (0 : Int32)) (px1 := (1 : Int32)) o1 (by decide) (by decide)) pd16 ?_
 intro vq2 h3 S4 q2 zh3
 obtain ⟨rfl, rfl, rfl⟩ := q2
 refine Ow.Go.nr (S' := []) (st' := []) ?_
 refine Ow.aloadN (pc' := 7) B e19_6 ?_
 refine Ow.iloadN (pc' := 8) B e19_7 ?_
 refine Ow.baload (pc' := 9) B e19_8 hf0 ⟨by decide, by decide⟩ rfl ?_
 refine Ow.sipush (pc' := 12) (x := 255) B e19_9 ?_
 refine Ow.iand (pc' := 13) (z := px0) (hz := (Ow.b255 (hk0) (hk1))) B e19_12 ?_
 refine Ow.i2c (pc' := 14) (z := px0) (hz := (Ow.c_id (hk0) (hk1))) B e19_13 ?_
 exact Ow.retI (S' := []) (t := .char) (hnn := (Ow.cnarrow (Ow.nar_id (hk0) (hk1)))) B e19_14 (⟨rfl, rfl, rfl⟩)
set_option maxRecDepth 65536 in
set_option maxHeartbeats 40000000 in
theorem con_isLatin1_28 (hw : Hw a0 Z) (G : Ow.Glo Z cz sf) (GS : GlS Z) {pa0 : Nat} {h0 : Heap} (O0 : Old Z n0 h0) (hf0 : Fld Z h0 pa0 "java/lang/String" "coder" "B" (.int 1)) (hn0 : n0 ≤ pa0) :
    Ow.Con l Z EL1 n0 my17 jdk_42_method_154_code 1 (Option.some Jvm.ClassFile.FieldType.boolean) [] ({ frames := 0, cells := 0, slots := 0, locals := 0 } : Room) #[(.ref pa0)] [] h0 (fun v h S' => (v = some (.int 0) ∧ h = h0 ∧ S' = [])) := by
 refine Ow.Con.enter (Ls := #[.val (.ref pa0)]) (plainFor_of_name pn1) O0 (hEW hw) (hSA hw) ?_
 intro p e s m below meth c B
 have z0 := Ow.old_le O0
 have lpa0 : (pa0 : Nat) < h0.size := hf0.lt
 refine Ow.getstatic (pc' := 3) B e18_0 (w37 hw) Via.refl G.1 ?_
 refine Ow.ifF (pc' := 6) B e18_3 (feq (G.2.1)).1 ?_
 refine Ow.aloadN (pc' := 7) B e18_6 ?_
 refine Ow.getfield (pc' := 10) B e18_7 (w27 hw) Via.refl hf0 ?_
 refine Ow.ifT (pc' := 17) B e18_10 (by decide) ?_
 refine Ow.iconst (pc' := 18) (x := 0) B e18_17 ?_
 exact Ow.retI (S' := []) (t := .boolean) B e18_18 (⟨rfl, rfl, rfl⟩)
set_option maxRecDepth 65536 in
set_option maxHeartbeats 40000000 in
theorem con_length_29 (hw : Hw a0 Z) (G : Ow.Glo Z cz sf) (GS : GlS Z) {pa0 : Nat} {px0 : Int32} {pk0 : ClassId} {h0 : Heap} (O0 : Old Z n0 h0) (hf0 : Arv Z h0 pa0 pk0 .byte (2 : Int32) [(.int px0.toInt8.toInt32), (.int (px0 >>> ((8 : Int32) &&& 31)).toInt8.toInt32)] (.int 0)) (hn0 : n0 ≤ pa0) (hc_px0 : nar .char px0 = px0) :
    Ow.Con l Z EL1 n0 my21 jdk_52_method_6_code 1 (Option.some Jvm.ClassFile.FieldType.int) [] ({ frames := 0, cells := 0, slots := 0, locals := 0 } : Room) #[(.ref pa0)] [] h0 (fun v h S' => (v = some (.int 1) ∧ h = h0 ∧ S' = [])) := by
 refine Ow.Con.enter (Ls := #[.val (.ref pa0)]) (plainFor_of_name pn3) O0 (hEW hw) (hSA hw) ?_
 intro p e s m below meth c B
 have z0 := Ow.old_le O0
 have lpa0 : (pa0 : Nat) < h0.size := hf0.lt
 refine Ow.aloadN (pc' := 1) B e24_0 ?_
 refine Ow.arrlen (pc' := 2) B e24_1 hf0 ?_
 refine Ow.iconst (pc' := 3) (x := 1) B e24_2 ?_
 refine Ow.ishr (pc' := 4) (z := 1) B e24_3 ?_
 exact Ow.retI (S' := []) (t := .int) B e24_4 (⟨rfl, rfl, rfl⟩)
set_option maxRecDepth 65536 in
set_option maxHeartbeats 40000000 in
theorem con_checkIndex_30 (hw : Hw a0 Z) (G : Ow.Glo Z cz sf) (GS : GlS Z) {pa0 : Nat} {px0 : Int32} {pk0 : ClassId} {h0 : Heap} (O0 : Old Z n0 h0) (hf0 : Arv Z h0 pa0 pk0 .byte (2 : Int32) [(.int px0.toInt8.toInt32), (.int (px0 >>> ((8 : Int32) &&& 31)).toInt8.toInt32)] (.int 0)) (hn0 : n0 ≤ pa0) (hc_px0 : nar .char px0 = px0) :
    Ow.Con l Z EL1 n0 my22 jdk_52_method_91_code 2 (Option.none : Option Jvm.ClassFile.FieldType) [] ({ frames := 2, cells := 0, slots := 0, locals := 27 } : Room) #[(.int 0), (.ref pa0)] [] h0 (fun v h S' => (v = none ∧ h = h0 ∧ S' = [])) := by
 refine Ow.Con.enter (Ls := #[.val (.int 0), .val (.ref pa0)]) (plainFor_of_name pn3) O0 (hEW hw) (hSA hw) ?_
 intro p e s m below meth c B
 have z0 := Ow.old_le O0
 have lpa0 : (pa0 : Nat) < h0.size := hf0.lt
 refine Ow.iloadN (pc' := 1) B e23_0 ?_
 refine Ow.aloadN (pc' := 2) B e23_1 ?_
 refine Ow.Go.old (fun o1 => ?_)
 refine Ow.callStatic (pc' := 5) (W := 1) (k' := 0) (n' := 0) (argsL := [(.ref pa0)]) (rest := [(.int 0)]) B e23_2 (w139 hw) (w140 hw) (w40 hw) (w141 hw) (con_length_29 hw G GS (pa0 := pa0) (px0 := px0) (pk0 := pk0) o1 hf0 (by omega) hc_px0) pd17 ?_
 intro vq2 h3 S4 q2 zh3
 obtain ⟨rfl, rfl, rfl⟩ := q2
 refine Ow.Go.nr (S' := []) (st' := [(.int 1), (.int 0)]) ?_
 refine Ow.Go.old (fun o5 => ?_)
 refine Ow.callStatic (pc' := 8) (W := 0) (k' := 0) (n' := 0) (argsL := [(.int 0), (.int 1)]) (rest := []) B e23_5 (w142 hw) (w76 hw) (w8 hw) (w77 hw) (con_checkIndex_26 hw G GS (px0 := (0 : Int32)) (px1 := (1 : Int32)) o5 (by decide) (by decide)) pd16 ?_
 intro vq6 h7 S8 q6 zh7
 obtain ⟨rfl, rfl, rfl⟩ := q6
 refine Ow.Go.nr (S' := []) (st' := []) ?_
 exact Ow.retV (S' := []) B e23_8 (⟨rfl, rfl, rfl⟩)
set_option maxRecDepth 65536 in
set_option maxHeartbeats 40000000 in
theorem con_getChar_31 (hw : Hw a0 Z) (G : Ow.Glo Z cz sf) (GS : GlS Z) {pa0 : Nat} {px0 : Int32} {pk0 : ClassId} {h0 : Heap} (O0 : Old Z n0 h0) (hf0 : Arv Z h0 pa0 pk0 .byte (2 : Int32) [(.int px0.toInt8.toInt32), (.int (px0 >>> ((8 : Int32) &&& 31)).toInt8.toInt32)] (.int 0)) (hn0 : n0 ≤ pa0) (hk0 : ¬ (px0 < (0 : Int32))) (hk1 : ¬ ((65535 : Int32) < px0)) (hc_px0 : nar .char px0 = px0) :
    Ow.Con l Z EL1 n0 my10 jdk_52_method_5_code 2 (Option.some Jvm.ClassFile.FieldType.char) [] ({ frames := 0, cells := 0, slots := 0, locals := 0 } : Room) #[(.ref pa0), (.int 0)] [] h0 (fun v h S' => (v = some (.int px0) ∧ h = h0 ∧ S' = [])) := by
 refine Ow.Con.enter (Ls := #[.val (.ref pa0), .val (.int 0)]) (plainFor_of_name pn3) O0 (hEW hw) (hSA hw) ?_
 intro p e s m below meth c B
 have z0 := Ow.old_le O0
 have lpa0 : (pa0 : Nat) < h0.size := hf0.lt
 refine Ow.getstatic (pc' := 3) B e11_0 (w127 hw) Via.refl GS.1 ?_
 refine Ow.ifT (pc' := 28) B e11_3 (by decide) ?_
 refine Ow.iloadN (pc' := 29) B e11_28 ?_
 refine Ow.iconst (pc' := 30) (x := 1) B e11_29 ?_
 refine Ow.ishl (pc' := 31) (z := 0) B e11_30 ?_
 refine Ow.istoreN (pc' := 32) (Ls' := #[.val (.ref pa0), .val (.int 0)]) B e11_31 ?_
 refine Ow.aloadN (pc' := 33) B e11_32 ?_
 refine Ow.iloadN (pc' := 34) B e11_33 ?_
 refine Ow.iinc (pc' := 37) (y := 1) (Ls' := #[.val (.ref pa0), .val (.int 1)]) B e11_34 ?_
 refine Ow.baload (pc' := 38) B e11_37 hf0 ⟨by decide, by decide⟩ rfl ?_
 refine Ow.sipush (pc' := 41) (x := 255) B e11_38 ?_
 refine Ow.iand (pc' := 42) (z := (px0.toInt8.toInt32 &&& (255 : Int32))) B e11_41 ?_
 refine Ow.getstatic (pc' := 45) B e11_42 (w128 hw) Via.refl GS.2.1 ?_
 refine Ow.ishl (pc' := 46) (z := ((px0.toInt8.toInt32 &&& (255 : Int32)) <<< ((0 : Int32) &&& 31))) B e11_45 ?_
 refine Ow.aloadN (pc' := 47) B e11_46 ?_
 refine Ow.iloadN (pc' := 48) B e11_47 ?_
 refine Ow.baload (pc' := 49) B e11_48 hf0 ⟨by decide, by decide⟩ rfl ?_
 refine Ow.sipush (pc' := 52) (x := 255) B e11_49 ?_
 refine Ow.iand (pc' := 53) (z := ((px0 >>> ((8 : Int32) &&& 31)).toInt8.toInt32 &&& (255 : Int32))) B e11_52 ?_
 refine Ow.getstatic (pc' := 56) B e11_53 (w129 hw) Via.refl GS.2.2 ?_
 refine Ow.ishl (pc' := 57) (z := (((px0 >>> ((8 : Int32) &&& 31)).toInt8.toInt32 &&& (255 : Int32)) <<< ((8 : Int32) &&& 31))) B e11_56 ?_
 refine Ow.ior (pc' := 58) (z := px0) (hz := (Ow.u16 (hk0) (hk1))) B e11_57 ?_
 refine Ow.i2c (pc' := 59) (z := px0) (hz := hc_px0) B e11_58 ?_
 exact Ow.retI (S' := []) (t := .char) (hnn := (Ow.cnarrow hc_px0)) B e11_59 (⟨rfl, rfl, rfl⟩)
set_option maxRecDepth 65536 in
set_option maxHeartbeats 40000000 in
theorem con_charAt_32 (hw : Hw a0 Z) (G : Ow.Glo Z cz sf) (GS : GlS Z) {pa0 : Nat} {px0 : Int32} {pk0 : ClassId} {h0 : Heap} (O0 : Old Z n0 h0) (hf0 : Arv Z h0 pa0 pk0 .byte (2 : Int32) [(.int px0.toInt8.toInt32), (.int (px0 >>> ((8 : Int32) &&& 31)).toInt8.toInt32)] (.int 0)) (hn0 : n0 ≤ pa0) (hk0 : ¬ (px0 < (0 : Int32))) (hk1 : ¬ ((65535 : Int32) < px0)) (hc_px0 : nar .char px0 = px0) :
    Ow.Con l Z EL1 n0 my23 jdk_52_method_83_code 2 (Option.some Jvm.ClassFile.FieldType.char) [] ({ frames := 3, cells := 0, slots := 0, locals := 40 } : Room) #[(.ref pa0), (.int 0)] [] h0 (fun v h S' => (v = some (.int px0) ∧ h = h0 ∧ S' = [])) := by
 refine Ow.Con.enter (Ls := #[.val (.ref pa0), .val (.int 0)]) (plainFor_of_name pn3) O0 (hEW hw) (hSA hw) ?_
 intro p e s m below meth c B
 have z0 := Ow.old_le O0
 have lpa0 : (pa0 : Nat) < h0.size := hf0.lt
 refine Ow.iloadN (pc' := 1) B e22_0 ?_
 refine Ow.aloadN (pc' := 2) B e22_1 ?_
 refine Ow.Go.old (fun o1 => ?_)
 refine Ow.callStatic (pc' := 5) (W := 0) (k' := 0) (n' := 0) (argsL := [(.int 0), (.ref pa0)]) (rest := []) B e22_2 (w136 hw) (w137 hw) (w40 hw) (w138 hw) (con_checkIndex_30 hw G GS (pa0 := pa0) (px0 := px0) (pk0 := pk0) o1 hf0 (by omega) hc_px0) pd18 ?_
 intro vq2 h3 S4 q2 zh3
 obtain ⟨rfl, rfl, rfl⟩ := q2
 refine Ow.Go.nr (S' := []) (st' := []) ?_
 refine Ow.aloadN (pc' := 6) B e22_5 ?_
 refine Ow.iloadN (pc' := 7) B e22_6 ?_
 refine Ow.Go.old (fun o5 => ?_)
 refine Ow.callStatic (pc' := 10) (W := 0) (k' := 0) (n' := 0) (argsL := [(.ref pa0), (.int 0)]) (rest := []) B e22_7 (w130 hw) (w131 hw) (w40 hw) (w132 hw) (con_getChar_31 hw G GS (pa0 := pa0) (px0 := px0) (pk0 := pk0) o5 hf0 (by omega) (hk0) (hk1) hc_px0) pd10 ?_
 intro vq6 h7 S8 q6 zh7
 obtain ⟨rfl, rfl, rfl⟩ := q6
 refine Ow.Go.nr (S' := []) (st' := [(.int px0)]) ?_
 exact Ow.retI (S' := []) (t := .char) (hnn := (Ow.cnarrow hc_px0)) B e22_10 (⟨rfl, rfl, rfl⟩)
set_option maxRecDepth 65536 in
set_option maxHeartbeats 40000000 in
theorem con_charAt_33 (hw : Hw a0 Z) (G : Ow.Glo Z cz sf) (GS : GlS Z) {pa0 : Nat} {pa1 : Nat} {px0 : Int32} {pk0 : ClassId} {h0 : Heap} (O0 : Old Z n0 h0) (hf0 : Ow.Chs Z h0 pa0 pa1 pk0 [px0]) (hn0 : n0 ≤ pa0) (hn1 : n0 ≤ pa1) (hk0 : ¬ (px0 < (0 : Int32))) (hk1 : ¬ ((65535 : Int32) < px0)) (hc_px0 : nar .char px0 = px0) :
    Ow.Con l Z EL1 n0 my24 jdk_42_method_56_code 2 (Option.some Jvm.ClassFile.FieldType.char) [] ({ frames := 4, cells := 0, slots := 0, locals := 53 } : Room) #[(.ref pa0), (.int 0)] [] h0 (fun v h S' => (v = some (.int px0) ∧ h = h0 ∧ S' = [])) := by
 rcases hf0.2.2.2 with ⟨oc_hf0, oa_hf0, ol_hf0⟩ | ⟨oc_hf0, oa_hf0, ou_hf0⟩
 ·refine Ow.Con.enter (Ls := #[.val (.ref pa0), .val (.int 0)]) (plainFor_of_name pn1) O0 (hEW hw) (hSA hw) ?_
  intro p e s m below meth c B
  have z0 := Ow.old_le O0
  have oE_hf0 := hf0.1
  have oV_hf0 := hf0.2.1
  have oR_hf0 := hf0.2.2.1
  have oA_hf0 : Arv Z h0 pa1 pk0 .byte (1 : Int32) [(.int px0.toInt8.toInt32)] (.int 0) := oa_hf0
  have lpa0 : (pa0 : Nat) < h0.size := hf0.lt
  have lpa1 : (pa1 : Nat) < h0.size := oA_hf0.lt
  have lpa1 : (pa1 : Nat) < h0.size := hf0.ltt
  refine Ow.aloadN (pc' := 1) B e17_0 ?_
  refine Ow.Go.old (fun o1 => ?_)
  refine Ow.callVirtual (pc' := 4) (W := 0) (k' := 0) (n' := 0) (argsL := []) (rest := []) (K := "java/lang/String") B e17_1 (w66 hw) (w67 hw) (w69 hw) (w69 hw) (w68 hw) (w8 hw) (w70 hw) oE_hf0 (con_isLatin1_24 hw G GS (pa0 := pa0) o1 oc_hf0 (by omega)) pd3 ?_
  intro vq2 h3 S4 q2 zh3
  obtain ⟨rfl, rfl, rfl⟩ := q2
  refine Ow.Go.nr (S' := []) (st' := [(.int 1)]) ?_
  refine Ow.ifF (pc' := 7) B e17_4 (by decide) ?_
  refine Ow.aloadN (pc' := 8) B e17_7 ?_
  refine Ow.getfield (pc' := 11) B e17_8 (w26 hw) Via.refl oV_hf0 ?_
  refine Ow.iloadN (pc' := 12) B e17_11 ?_
  refine Ow.Go.old (fun o5 => ?_)
  refine Ow.callStatic (pc' := 15) (W := 0) (k' := 0) (n' := 0) (argsL := [(.ref pa1), (.int 0)]) (rest := []) B e17_12 (w71 hw) (w72 hw) (w73 hw) (w74 hw) (con_charAt_27 hw G GS (pa0 := pa1) (px0 := px0) (pk0 := pk0) o5 oA_hf0 (by omega) (hk0) (ol_hf0 px0 (by simp)) hc_px0) pd10 ?_
  intro vq6 h7 S8 q6 zh7
  obtain ⟨rfl, rfl, rfl⟩ := q6
  refine Ow.Go.nr (S' := []) (st' := [(.int px0)]) ?_
  exact Ow.retI (S' := []) (t := .char) (hnn := (Ow.cnarrow hc_px0)) B e17_15 (⟨rfl, rfl, rfl⟩)
 ·refine Ow.Con.enter (Ls := #[.val (.ref pa0), .val (.int 0)]) (plainFor_of_name pn1) O0 (hEW hw) (hSA hw) ?_
  intro p e s m below meth c B
  have z0 := Ow.old_le O0
  have oE_hf0 := hf0.1
  have oV_hf0 := hf0.2.1
  have oR_hf0 := hf0.2.2.1
  have oA_hf0 : Arv Z h0 pa1 pk0 .byte (2 : Int32) [(.int px0.toInt8.toInt32), (.int (px0 >>> ((8 : Int32) &&& 31)).toInt8.toInt32)] (.int 0) := oa_hf0
  have lpa0 : (pa0 : Nat) < h0.size := hf0.lt
  have lpa1 : (pa1 : Nat) < h0.size := oA_hf0.lt
  have lpa1 : (pa1 : Nat) < h0.size := hf0.ltt
  refine Ow.aloadN (pc' := 1) B e17_0 ?_
  refine Ow.Go.old (fun o1 => ?_)
  refine Ow.callVirtual (pc' := 4) (W := 0) (k' := 0) (n' := 0) (argsL := []) (rest := []) (K := "java/lang/String") B e17_1 (w66 hw) (w67 hw) (w69 hw) (w69 hw) (w68 hw) (w8 hw) (w70 hw) oE_hf0 (con_isLatin1_28 hw G GS (pa0 := pa0) o1 oc_hf0 (by omega)) pd3 ?_
  intro vq2 h3 S4 q2 zh3
  obtain ⟨rfl, rfl, rfl⟩ := q2
  refine Ow.Go.nr (S' := []) (st' := [(.int 0)]) ?_
  refine Ow.ifT (pc' := 16) B e17_4 (by decide) ?_
  refine Ow.aloadN (pc' := 17) B e17_16 ?_
  refine Ow.getfield (pc' := 20) B e17_17 (w26 hw) Via.refl oV_hf0 ?_
  refine Ow.iloadN (pc' := 21) B e17_20 ?_
  refine Ow.Go.old (fun o5 => ?_)
  refine Ow.callStatic (pc' := 24) (W := 0) (k' := 0) (n' := 0) (argsL := [(.ref pa1), (.int 0)]) (rest := []) B e17_21 (w133 hw) (w134 hw) (w40 hw) (w135 hw) (con_charAt_32 hw G GS (pa0 := pa1) (px0 := px0) (pk0 := pk0) o5 oA_hf0 (by omega) (hk0) (hk1) hc_px0) pd10 ?_
  intro vq6 h7 S8 q6 zh7
  obtain ⟨rfl, rfl, rfl⟩ := q6
  refine Ow.Go.nr (S' := []) (st' := [(.int px0)]) ?_
  exact Ow.retI (S' := []) (t := .char) (hnn := (Ow.cnarrow hc_px0)) B e17_24 (⟨rfl, rfl, rfl⟩)
set_option maxRecDepth 65536 in
set_option maxHeartbeats 40000000 in
theorem con_isLatin1_34 (hw : Hw a0 Z) (G : Ow.Glo Z cz sf) (GS : GlS Z) {pa0 : Nat} {h0 : Heap} (O0 : Old Z n0 h0) (hf0 : Fld Z h0 pa0 "java/lang/String" "coder" "B" (.int 0)) :
    Ow.Con l Z EL1 n0 my17 jdk_42_method_154_code 1 (Option.some Jvm.ClassFile.FieldType.boolean) [] ({ frames := 0, cells := 0, slots := 0, locals := 0 } : Room) #[(.ref pa0)] [] h0 (fun v h S' => (v = some (.int 1) ∧ h = h0 ∧ S' = [])) := by
 refine Ow.Con.enter (Ls := #[.val (.ref pa0)]) (plainFor_of_name pn1) O0 (hEW hw) (hSA hw) ?_
 intro p e s m below meth c B
 have z0 := Ow.old_le O0
 have lpa0 : (pa0 : Nat) < h0.size := hf0.lt
 refine Ow.getstatic (pc' := 3) B e18_0 (w37 hw) Via.refl G.1 ?_
 refine Ow.ifF (pc' := 6) B e18_3 (feq (G.2.1)).1 ?_
 refine Ow.aloadN (pc' := 7) B e18_6 ?_
 refine Ow.getfield (pc' := 10) B e18_7 (w27 hw) Via.refl hf0 ?_
 refine Ow.ifF (pc' := 13) B e18_10 (by decide) ?_
 refine Ow.iconst (pc' := 14) (x := 1) B e18_13 ?_
 refine Ow.goto (pc' := 18) B e18_14 ?_
 exact Ow.retI (S' := []) (t := .boolean) B e18_18 (⟨rfl, rfl, rfl⟩)
set_option maxRecDepth 65536 in
set_option maxHeartbeats 40000000 in
theorem con_coder_35 (hw : Hw a0 Z) (G : Ow.Glo Z cz sf) (GS : GlS Z) {pa0 : Nat} {h0 : Heap} (O0 : Old Z n0 h0) (hf0 : Fld Z h0 pa0 "java/lang/String" "coder" "B" (.int 0)) :
    Ow.Con l Z EL1 n0 my15 jdk_42_method_152_code 1 (Option.some Jvm.ClassFile.FieldType.byte) [] ({ frames := 0, cells := 0, slots := 0, locals := 0 } : Room) #[(.ref pa0)] [] h0 (fun v h S' => (v = some (.int 0) ∧ h = h0 ∧ S' = [])) := by
 refine Ow.Con.enter (Ls := #[.val (.ref pa0)]) (plainFor_of_name pn1) O0 (hEW hw) (hSA hw) ?_
 intro p e s m below meth c B
 have z0 := Ow.old_le O0
 have lpa0 : (pa0 : Nat) < h0.size := hf0.lt
 refine Ow.getstatic (pc' := 3) B e16_0 (w37 hw) Via.refl G.1 ?_
 refine Ow.ifF (pc' := 6) B e16_3 (feq (G.2.1)).1 ?_
 refine Ow.aloadN (pc' := 7) B e16_6 ?_
 refine Ow.getfield (pc' := 10) B e16_7 (w27 hw) Via.refl hf0 ?_
 refine Ow.goto (pc' := 14) B e16_10 ?_
 exact Ow.retI (S' := []) (t := .byte) B e16_14 (⟨rfl, rfl, rfl⟩)
set_option maxRecDepth 65536 in
set_option maxHeartbeats 40000000 in
theorem con_length_36 (hw : Hw a0 Z) (G : Ow.Glo Z cz sf) (GS : GlS Z) {pa0 : Nat} {pa1 : Nat} {pk0 : ClassId} {h0 : Heap} (O0 : Old Z n0 h0) (hf0 : Exa Z h0 pa0 "java/lang/String") (hf1 : Fld Z h0 pa0 "java/lang/String" "coder" "B" (.int 0)) (hf2 : Fld Z h0 pa0 "java/lang/String" "value" "[B" (.ref pa1)) (hf3 : Arv Z h0 pa1 pk0 .byte (15 : Int32) [(.int 33), (.int 35), (.int 36), (.int 37), (.int 38), (.int 39), (.int 42), (.int 43), (.int 45), (.int 46), (.int 94), (.int 95), (.int 96), (.int 124), (.int 126)] (.int 0)) :
    Ow.Con l Z EL1 n0 my16 jdk_42_method_54_code 1 (Option.some Jvm.ClassFile.FieldType.int) [] ({ frames := 1, cells := 0, slots := 0, locals := 13 } : Room) #[(.ref pa0)] [] h0 (fun v h S' => (v = some (.int 15) ∧ h = h0 ∧ S' = [])) := by
 refine Ow.Con.enter (Ls := #[.val (.ref pa0)]) (plainFor_of_name pn1) O0 (hEW hw) (hSA hw) ?_
 intro p e s m below meth c B
 have z0 := Ow.old_le O0
 have lpa0 : (pa0 : Nat) < h0.size := hf0.lt
 have lpa1 : (pa1 : Nat) < h0.size := hf3.lt
 refine Ow.aloadN (pc' := 1) B e15_0 ?_
 refine Ow.getfield (pc' := 4) B e15_1 (w26 hw) Via.refl hf2 ?_
 refine Ow.arrlen (pc' := 5) B e15_4 hf3 ?_
 refine Ow.aloadN (pc' := 6) B e15_5 ?_
 refine Ow.Go.old (fun o1 => ?_)
 refine Ow.callVirtual (pc' := 9) (W := 1) (k' := 0) (n' := 0) (argsL := []) (rest := [(.int 15)]) (K := "java/lang/String") B e15_6 (w56 hw) (w57 hw) (w59 hw) (w59 hw) (w58 hw) (w8 hw) (w60 hw) hf0 (con_coder_35 hw G GS (pa0 := pa0) o1 hf1) pd13 ?_
 intro vq2 h3 S4 q2 zh3
 obtain ⟨rfl, rfl, rfl⟩ := q2
 refine Ow.Go.nr (S' := []) (st' := [(.int 0), (.int 15)]) ?_
 refine Ow.ishr (pc' := 10) (z := 15) B e15_9 ?_
 exact Ow.retI (S' := []) (t := .int) B e15_10 (⟨rfl, rfl, rfl⟩)
set_option maxRecDepth 65536 in
set_option maxHeartbeats 40000000 in
theorem con_canEncode_37 (hw : Hw a0 Z) (G : Ow.Glo Z cz sf) (GS : GlS Z) {px0 : Int32} {h0 : Heap} (O0 : Old Z n0 h0) (hk0 : ¬ (px0 < (0 : Int32))) (hc_px0 : nar .char px0 = px0) :
    Ow.Con l Z EL1 n0 my25 jdk_43_method_4_code 1 (Option.some Jvm.ClassFile.FieldType.boolean) [] ({ frames := 0, cells := 0, slots := 0, locals := 0 } : Room) #[(.int px0)] [] h0 (fun v h S' => (v = some (.int 0) ∧ h = h0 ∧ (255 : Int32) < px0 ∧ S' = []) ∨ (v = some (.int 1) ∧ h = h0 ∧ ¬ ((255 : Int32) < px0) ∧ S' = [])) := by
 refine Ow.Con.enter (Ls := #[.val (.int px0)]) (plainFor_of_name pn4) O0 (hEW hw) (hSA hw) ?_
 intro p e s m below meth c B
 have z0 := Ow.old_le O0
 refine Ow.iloadN (pc' := 1) B e28_0 ?_
 refine Ow.ifF (pc' := 4) B e28_1 (flt (hk0)).1 ?_
 refine Ow.iloadN (pc' := 5) B e28_4 ?_
 refine Ow.sipush (pc' := 8) (x := 255) B e28_5 ?_
 by_cases c1 : (255 : Int32) < px0
 ·refine Ow.icmpT (pc' := 15) B e28_8 (tlt c1).2.2.1 ?_
  refine Ow.iconst (pc' := 16) (x := 0) B e28_15 ?_
  exact Ow.retI (S' := []) (t := .boolean) B e28_16 (Or.inl (⟨rfl, rfl, c1, rfl⟩))
 ·refine Ow.icmpF (pc' := 11) B e28_8 (flt c1).2.2.1 ?_
  refine Ow.iconst (pc' := 12) (x := 1) B e28_11 ?_
  refine Ow.goto (pc' := 16) B e28_12 ?_
  exact Ow.retI (S' := []) (t := .boolean) B e28_16 (Or.inr (⟨rfl, rfl, c1, rfl⟩))
set_option maxRecDepth 65536 in
set_option maxHeartbeats 40000000 in
theorem con_max_38 (hw : Hw a0 Z) (G : Ow.Glo Z cz sf) (GS : GlS Z) {h0 : Heap} (O0 : Old Z n0 h0) :
    Ow.Con l Z EL1 n0 my26 jdk_29_method_65_code 2 (Option.some Jvm.ClassFile.FieldType.int) [] ({ frames := 0, cells := 0, slots := 0, locals := 0 } : Room) #[(.int 0), (.int 0)] [] h0 (fun v h S' => (v = some (.int 0) ∧ h = h0 ∧ S' = [])) := by
 refine Ow.Con.enter (Ls := #[.val (.int 0), .val (.int 0)]) (by decide +kernel) O0 (hEW hw) (hSA hw) ?_
 intro p e s m below meth c B
 have z0 := Ow.old_le O0
 refine Ow.iloadN (pc' := 1) B e29_0 ?_
 refine Ow.iloadN (pc' := 2) B e29_1 ?_
 refine Ow.icmpF (pc' := 5) B e29_2 (by decide) ?_
 refine Ow.iloadN (pc' := 6) B e29_5 ?_
 refine Ow.goto (pc' := 10) B e29_6 ?_
 exact Ow.retI (S' := []) (t := .int) B e29_10 (⟨rfl, rfl, rfl⟩)
set_option maxRecDepth 65536 in
set_option maxHeartbeats 40000000 in
theorem con_min_39 (hw : Hw a0 Z) (G : Ow.Glo Z cz sf) (GS : GlS Z) {h0 : Heap} (O0 : Old Z n0 h0) :
    Ow.Con l Z EL1 n0 my27 jdk_29_method_69_code 2 (Option.some Jvm.ClassFile.FieldType.int) [] ({ frames := 0, cells := 0, slots := 0, locals := 0 } : Room) #[(.int 15), (.int 15)] [] h0 (fun v h S' => (v = some (.int 15) ∧ h = h0 ∧ S' = [])) := by
 refine Ow.Con.enter (Ls := #[.val (.int 15), .val (.int 15)]) (by decide +kernel) O0 (hEW hw) (hSA hw) ?_
 intro p e s m below meth c B
 have z0 := Ow.old_le O0
 refine Ow.iloadN (pc' := 1) B e30_0 ?_
 refine Ow.iloadN (pc' := 2) B e30_1 ?_
 refine Ow.icmpF (pc' := 5) B e30_2 (by decide) ?_
 refine Ow.iloadN (pc' := 6) B e30_5 ?_
 refine Ow.goto (pc' := 10) B e30_6 ?_
 exact Ow.retI (S' := []) (t := .int) B e30_10 (⟨rfl, rfl, rfl⟩)
set_option maxRecDepth 65536 in
set_option maxHeartbeats 40000000 in
theorem con_indexOfChar_40 (hw : Hw a0 Z) (G : Ow.Glo Z cz sf) (GS : GlS Z) {pa0 : Nat} {px0 : Int32} {pk0 : ClassId} {h0 : Heap} (O0 : Old Z n0 h0) (hf0 : Arv Z h0 pa0 pk0 .byte (15 : Int32) [(.int 33), (.int 35), (.int 36), (.int 37), (.int 38), (.int 39), (.int 42), (.int 43), (.int 45), (.int 46), (.int 94), (.int 95), (.int 96), (.int 124), (.int 126)] (.int 0)) (hk0 : ¬ (px0 < (0 : Int32))) (hk1 : ¬ ((255 : Int32) < px0)) (hc_px0 : nar .char px0 = px0) :
    Ow.Con l Z EL1 n0 my28 jdk_43_method_23_code 6 (Option.some Jvm.ClassFile.FieldType.int) [] ({ frames := 0, cells := 0, slots := 0, locals := 0 } : Room) #[(.ref pa0), (.int px0), (.int 0), (.int 15)] [] h0 (fun v h S' => (∃ i0 : Int32, v = some (.int i0) ∧ h = h0 ∧ symP px0 ∧ ¬ (i0 < (0 : Int32)) ∧ S' = []) ∨ (∃ i0 : Int32, v = some (.int i0) ∧ h = h0 ∧ ¬ (symP px0) ∧ i0 < (0 : Int32) ∧ S' = [])) := by
 refine Ow.Con.enter (Ls := #[.val (.ref pa0), .val (.int px0), .val (.int 0), .val (.int 15), .unset, .unset]) (plainFor_of_name pn4) O0 (hEW hw) (hSA hw) ?_
 intro p e s m below meth c B
 have z0 := Ow.old_le O0
 have lpa0 : (pa0 : Nat) < h0.size := hf0.lt
 have i0 := own_i0 (hk0)
 have i1 := own_i255 (hk1)
 have i8 := own_i8 (hk0) (hk1)
 refine Ow.iloadN (pc' := 1) B e31_0 ?_
 refine Ow.i2b (pc' := 2) (z := px0.toInt8.toInt32) B e31_1 ?_
 refine Ow.istore (pc' := 4) (Ls' := #[.val (.ref pa0), .val (.int px0), .val (.int 0), .val (.int 15), .val (.int px0.toInt8.toInt32), .unset]) B e31_2 ?_
 refine Ow.iloadN (pc' := 5) B e31_4 ?_
 refine Ow.istore (pc' := 7) (Ls' := #[.val (.ref pa0), .val (.int px0), .val (.int 0), .val (.int 15), .val (.int px0.toInt8.toInt32), .val (.int 0)]) B e31_5 ?_
 refine Ow.iload (pc' := 9) B e31_7 ?_
 refine Ow.iloadN (pc' := 10) B e31_9 ?_
 refine Ow.icmpF (pc' := 13) B e31_10 (by decide) ?_
 refine Ow.aloadN (pc' := 14) B e31_13 ?_
 refine Ow.iload (pc' := 16) B e31_14 ?_
 refine Ow.baload (pc' := 17) B e31_16 hf0 ⟨by decide, by decide⟩ rfl ?_
 refine Ow.iload (pc' := 19) B e31_17 ?_
 by_cases c1 : (33 : Int32) = px0.toInt8.toInt32
 ·have c1i := c1
  simp only [Int32.lt_iff_toInt_lt, ← Int32.toInt_inj, Int32.reduceToInt] at c1i
  refine Ow.icmpF (pc' := 22) B e31_19 (teq c1).2 ?_
  refine Ow.iload (pc' := 24) B e31_22 ?_
  exact Ow.retI (S' := []) (t := .int) B e31_24 (Or.inl (⟨(0 : Int32), rfl, rfl, (by unfold symP; omega), (by decide), rfl⟩))
 ·have c1i := c1
  simp only [Int32.lt_iff_toInt_lt, ← Int32.toInt_inj, Int32.reduceToInt] at c1i
  refine Ow.icmpT (pc' := 25) B e31_19 (feq c1).2 ?_
  refine Ow.iinc (pc' := 28) (y := 1) (Ls' := #[.val (.ref pa0), .val (.int px0), .val (.int 0), .val (.int 15), .val (.int px0.toInt8.toInt32), .val (.int 1)]) B e31_25 ?_
  refine Ow.goto (pc' := 7) B e31_28 ?_
  refine Ow.iload (pc' := 9) B e31_7 ?_
  refine Ow.iloadN (pc' := 10) B e31_9 ?_
  refine Ow.icmpF (pc' := 13) B e31_10 (by decide) ?_
  refine Ow.aloadN (pc' := 14) B e31_13 ?_
  refine Ow.iload (pc' := 16) B e31_14 ?_
  refine Ow.baload (pc' := 17) B e31_16 hf0 ⟨by decide, by decide⟩ rfl ?_
  refine Ow.iload (pc' := 19) B e31_17 ?_
  by_cases c2 : (35 : Int32) = px0.toInt8.toInt32
  ·have c2i := c2
   simp only [Int32.lt_iff_toInt_lt, ← Int32.toInt_inj, Int32.reduceToInt] at c2i
   refine Ow.icmpF (pc' := 22) B e31_19 (teq c2).2 ?_
   refine Ow.iload (pc' := 24) B e31_22 ?_
   exact Ow.retI (S' := []) (t := .int) B e31_24 (Or.inl (⟨(1 : Int32), rfl, rfl, (by unfold symP; omega), (by decide), rfl⟩))
  ·have c2i := c2
   simp only [Int32.lt_iff_toInt_lt, ← Int32.toInt_inj, Int32.reduceToInt] at c2i
   refine Ow.icmpT (pc' := 25) B e31_19 (feq c2).2 ?_
   refine Ow.iinc (pc' := 28) (y := 2) (Ls' := #[.val (.ref pa0), .val (.int px0), .val (.int 0), .val (.int 15), .val (.int px0.toInt8.toInt32), .val (.int 2)]) B e31_25 ?_
   refine Ow.goto (pc' := 7) B e31_28 ?_
   refine Ow.iload (pc' := 9) B e31_7 ?_
   refine Ow.iloadN (pc' := 10) B e31_9 ?_
   refine Ow.icmpF (pc' := 13) B e31_10 (by decide) ?_
   refine Ow.aloadN (pc' := 14) B e31_13 ?_
   refine Ow.iload (pc' := 16) B e31_14 ?_
   refine Ow.baload (pc' := 17) B e31_16 hf0 ⟨by decide, by decide⟩ rfl ?_
   refine Ow.iload (pc' := 19) B e31_17 ?_
   by_cases c3 : (36 : Int32) = px0.toInt8.toInt32
   ·have c3i := c3
    simp only [Int32.lt_iff_toInt_lt, ← Int32.toInt_inj, Int32.reduceToInt] at c3i
    refine Ow.icmpF (pc' := 22) B e31_19 (teq c3).2 ?_
    refine Ow.iload (pc' := 24) B e31_22 ?_
    exact Ow.retI (S' := []) (t := .int) B e31_24 (Or.inl (⟨(2 : Int32), rfl, rfl, (by unfold symP; omega), (by decide), rfl⟩))
   ·have c3i := c3
    simp only [Int32.lt_iff_toInt_lt, ← Int32.toInt_inj, Int32.reduceToInt] at c3i
    refine Ow.icmpT (pc' := 25) B e31_19 (feq c3).2 ?_
    refine Ow.iinc (pc' := 28) (y := 3) (Ls' := #[.val (.ref pa0), .val (.int px0), .val (.int 0), .val (.int 15), .val (.int px0.toInt8.toInt32), .val (.int 3)]) B e31_25 ?_
    refine Ow.goto (pc' := 7) B e31_28 ?_
    refine Ow.iload (pc' := 9) B e31_7 ?_
    refine Ow.iloadN (pc' := 10) B e31_9 ?_
    refine Ow.icmpF (pc' := 13) B e31_10 (by decide) ?_
    refine Ow.aloadN (pc' := 14) B e31_13 ?_
    refine Ow.iload (pc' := 16) B e31_14 ?_
    refine Ow.baload (pc' := 17) B e31_16 hf0 ⟨by decide, by decide⟩ rfl ?_
    refine Ow.iload (pc' := 19) B e31_17 ?_
    by_cases c4 : (37 : Int32) = px0.toInt8.toInt32
    ·have c4i := c4
     simp only [Int32.lt_iff_toInt_lt, ← Int32.toInt_inj, Int32.reduceToInt] at c4i
     refine Ow.icmpF (pc' := 22) B e31_19 (teq c4).2 ?_
     refine Ow.iload (pc' := 24) B e31_22 ?_
     exact Ow.retI (S' := []) (t := .int) B e31_24 (Or.inl (⟨(3 : Int32), rfl, rfl, (by unfold symP; omega), (by decide), rfl⟩))
    ·have c4i := c4
     simp only [Int32.lt_iff_toInt_lt, ← Int32.toInt_inj, Int32.reduceToInt] at c4i
     refine Ow.icmpT (pc' := 25) B e31_19 (feq c4).2 ?_
     refine Ow.iinc (pc' := 28) (y := 4) (Ls' := #[.val (.ref pa0), .val (.int px0), .val (.int 0), .val (.int 15), .val (.int px0.toInt8.toInt32), .val (.int 4)]) B e31_25 ?_
     refine Ow.goto (pc' := 7) B e31_28 ?_
     refine Ow.iload (pc' := 9) B e31_7 ?_
     refine Ow.iloadN (pc' := 10) B e31_9 ?_
     refine Ow.icmpF (pc' := 13) B e31_10 (by decide) ?_
     refine Ow.aloadN (pc' := 14) B e31_13 ?_
     refine Ow.iload (pc' := 16) B e31_14 ?_
     refine Ow.baload (pc' := 17) B e31_16 hf0 ⟨by decide, by decide⟩ rfl ?_
     refine Ow.iload (pc' := 19) B e31_17 ?_
     by_cases c5 : (38 : Int32) = px0.toInt8.toInt32
     ·have c5i := c5
      simp only [Int32.lt_iff_toInt_lt, ← Int32.toInt_inj, Int32.reduceToInt] at c5i
      refine Ow.icmpF (pc' := 22) B e31_19 (teq c5).2 ?_
      refine Ow.iload (pc' := 24) B e31_22 ?_
      exact Ow.retI (S' := []) (t := .int) B e31_24 (Or.inl (⟨(4 : Int32), rfl, rfl, (by unfold symP; omega), (by decide), rfl⟩))
     ·have c5i := c5
      simp only [Int32.lt_iff_toInt_lt, ← Int32.toInt_inj, Int32.reduceToInt] at c5i
      refine Ow.icmpT (pc' := 25) B e31_19 (feq c5).2 ?_
      refine Ow.iinc (pc' := 28) (y := 5) (Ls' := #[.val (.ref pa0), .val (.int px0), .val (.int 0), .val (.int 15), .val (.int px0.toInt8.toInt32), .val (.int 5)]) B e31_25 ?_
      refine Ow.goto (pc' := 7) B e31_28 ?_
      refine Ow.iload (pc' := 9) B e31_7 ?_
      refine Ow.iloadN (pc' := 10) B e31_9 ?_
      refine Ow.icmpF (pc' := 13) B e31_10 (by decide) ?_
      refine Ow.aloadN (pc' := 14) B e31_13 ?_
      refine Ow.iload (pc' := 16) B e31_14 ?_
      refine Ow.baload (pc' := 17) B e31_16 hf0 ⟨by decide, by decide⟩ rfl ?_
      refine Ow.iload (pc' := 19) B e31_17 ?_
      by_cases c6 : (39 : Int32) = px0.toInt8.toInt32
      ·have c6i := c6
       simp only [Int32.lt_iff_toInt_lt, ← Int32.toInt_inj, Int32.reduceToInt] at c6i
       refine Ow.icmpF (pc' := 22) B e31_19 (teq c6).2 ?_
       refine Ow.iload (pc' := 24) B e31_22 ?_
       exact Ow.retI (S' := []) (t := .int) B e31_24 (Or.inl (⟨(5 : Int32), rfl, rfl, (by unfold symP; omega), (by decide), rfl⟩))
      ·have c6i := c6
       simp only [Int32.lt_iff_toInt_lt, ← Int32.toInt_inj, Int32.reduceToInt] at c6i
       refine Ow.icmpT (pc' := 25) B e31_19 (feq c6).2 ?_
       refine Ow.iinc (pc' := 28) (y := 6) (Ls' := #[.val (.ref pa0), .val (.int px0), .val (.int 0), .val (.int 15), .val (.int px0.toInt8.toInt32), .val (.int 6)]) B e31_25 ?_
       refine Ow.goto (pc' := 7) B e31_28 ?_
       refine Ow.iload (pc' := 9) B e31_7 ?_
       refine Ow.iloadN (pc' := 10) B e31_9 ?_
       refine Ow.icmpF (pc' := 13) B e31_10 (by decide) ?_
       refine Ow.aloadN (pc' := 14) B e31_13 ?_
       refine Ow.iload (pc' := 16) B e31_14 ?_
       refine Ow.baload (pc' := 17) B e31_16 hf0 ⟨by decide, by decide⟩ rfl ?_
       refine Ow.iload (pc' := 19) B e31_17 ?_
       by_cases c7 : (42 : Int32) = px0.toInt8.toInt32
       ·have c7i := c7
        simp only [Int32.lt_iff_toInt_lt, ← Int32.toInt_inj, Int32.reduceToInt] at c7i
        refine Ow.icmpF (pc' := 22) B e31_19 (teq c7).2 ?_
        refine Ow.iload (pc' := 24) B e31_22 ?_
        exact Ow.retI (S' := []) (t := .int) B e31_24 (Or.inl (⟨(6 : Int32), rfl, rfl, (by unfold symP; omega), (by decide), rfl⟩))
       ·have c7i := c7
        simp only [Int32.lt_iff_toInt_lt, ← Int32.toInt_inj, Int32.reduceToInt] at c7i
        refine Ow.icmpT (pc' := 25) B e31_19 (feq c7).2 ?_
        refine Ow.iinc (pc' := 28) (y := 7) (Ls' := #[.val (.ref pa0), .val (.int px0), .val (.int 0), .val (.int 15), .val (.int px0.toInt8.toInt32), .val (.int 7)]) B e31_25 ?_
        refine Ow.goto (pc' := 7) B e31_28 ?_
        refine Ow.iload (pc' := 9) B e31_7 ?_
        refine Ow.iloadN (pc' := 10) B e31_9 ?_
        refine Ow.icmpF (pc' := 13) B e31_10 (by decide) ?_
        refine Ow.aloadN (pc' := 14) B e31_13 ?_
        refine Ow.iload (pc' := 16) B e31_14 ?_
        refine Ow.baload (pc' := 17) B e31_16 hf0 ⟨by decide, by decide⟩ rfl ?_
        refine Ow.iload (pc' := 19) B e31_17 ?_
        by_cases c8 : (43 : Int32) = px0.toInt8.toInt32
        ·have c8i := c8
         simp only [Int32.lt_iff_toInt_lt, ← Int32.toInt_inj, Int32.reduceToInt] at c8i
         refine Ow.icmpF (pc' := 22) B e31_19 (teq c8).2 ?_
         refine Ow.iload (pc' := 24) B e31_22 ?_
         exact Ow.retI (S' := []) (t := .int) B e31_24 (Or.inl (⟨(7 : Int32), rfl, rfl, (by unfold symP; omega), (by decide), rfl⟩))
        ·have c8i := c8
         simp only [Int32.lt_iff_toInt_lt, ← Int32.toInt_inj, Int32.reduceToInt] at c8i
         refine Ow.icmpT (pc' := 25) B e31_19 (feq c8).2 ?_
         refine Ow.iinc (pc' := 28) (y := 8) (Ls' := #[.val (.ref pa0), .val (.int px0), .val (.int 0), .val (.int 15), .val (.int px0.toInt8.toInt32), .val (.int 8)]) B e31_25 ?_
         refine Ow.goto (pc' := 7) B e31_28 ?_
         refine Ow.iload (pc' := 9) B e31_7 ?_
         refine Ow.iloadN (pc' := 10) B e31_9 ?_
         refine Ow.icmpF (pc' := 13) B e31_10 (by decide) ?_
         refine Ow.aloadN (pc' := 14) B e31_13 ?_
         refine Ow.iload (pc' := 16) B e31_14 ?_
         refine Ow.baload (pc' := 17) B e31_16 hf0 ⟨by decide, by decide⟩ rfl ?_
         refine Ow.iload (pc' := 19) B e31_17 ?_
         by_cases c9 : (45 : Int32) = px0.toInt8.toInt32
         ·have c9i := c9
          simp only [Int32.lt_iff_toInt_lt, ← Int32.toInt_inj, Int32.reduceToInt] at c9i
          refine Ow.icmpF (pc' := 22) B e31_19 (teq c9).2 ?_
          refine Ow.iload (pc' := 24) B e31_22 ?_
          exact Ow.retI (S' := []) (t := .int) B e31_24 (Or.inl (⟨(8 : Int32), rfl, rfl, (by unfold symP; omega), (by decide), rfl⟩))
         ·have c9i := c9
          simp only [Int32.lt_iff_toInt_lt, ← Int32.toInt_inj, Int32.reduceToInt] at c9i
          refine Ow.icmpT (pc' := 25) B e31_19 (feq c9).2 ?_
          refine Ow.iinc (pc' := 28) (y := 9) (Ls' := #[.val (.ref pa0), .val (.int px0), .val (.int 0), .val (.int 15), .val (.int px0.toInt8.toInt32), .val (.int 9)]) B e31_25 ?_
          refine Ow.goto (pc' := 7) B e31_28 ?_
          refine Ow.iload (pc' := 9) B e31_7 ?_
          refine Ow.iloadN (pc' := 10) B e31_9 ?_
          refine Ow.icmpF (pc' := 13) B e31_10 (by decide) ?_
          refine Ow.aloadN (pc' := 14) B e31_13 ?_
          refine Ow.iload (pc' := 16) B e31_14 ?_
          refine Ow.baload (pc' := 17) B e31_16 hf0 ⟨by decide, by decide⟩ rfl ?_
          refine Ow.iload (pc' := 19) B e31_17 ?_
          by_cases c10 : (46 : Int32) = px0.toInt8.toInt32
          ·have c10i := c10
           simp only [Int32.lt_iff_toInt_lt, ← Int32.toInt_inj, Int32.reduceToInt] at c10i
           refine Ow.icmpF (pc' := 22) B e31_19 (teq c10).2 ?_
           refine Ow.iload (pc' := 24) B e31_22 ?_
           exact Ow.retI (S' := []) (t := .int) B e31_24 (Or.inl (⟨(9 : Int32), rfl, rfl, (by unfold symP; omega), (by decide), rfl⟩))
          ·have c10i := c10
           simp only [Int32.lt_iff_toInt_lt, ← Int32.toInt_inj, Int32.reduceToInt] at c10i
           refine Ow.icmpT (pc' := 25) B e31_19 (feq c10).2 ?_
           refine Ow.iinc (pc' := 28) (y := 10) (Ls' := #[.val (.ref pa0), .val (.int px0), .val (.int 0), .val (.int 15), .val (.int px0.toInt8.toInt32), .val (.int 10)]) B e31_25 ?_
           refine Ow.goto (pc' := 7) B e31_28 ?_
           refine Ow.iload (pc' := 9) B e31_7 ?_
           refine Ow.iloadN (pc' := 10) B e31_9 ?_
           refine Ow.icmpF (pc' := 13) B e31_10 (by decide) ?_
           refine Ow.aloadN (pc' := 14) B e31_13 ?_
           refine Ow.iload (pc' := 16) B e31_14 ?_
           refine Ow.baload (pc' := 17) B e31_16 hf0 ⟨by decide, by decide⟩ rfl ?_
           refine Ow.iload (pc' := 19) B e31_17 ?_
           by_cases c11 : (94 : Int32) = px0.toInt8.toInt32
           ·have c11i := c11
            simp only [Int32.lt_iff_toInt_lt, ← Int32.toInt_inj, Int32.reduceToInt] at c11i
            refine Ow.icmpF (pc' := 22) B e31_19 (teq c11).2 ?_
            refine Ow.iload (pc' := 24) B e31_22 ?_
            exact Ow.retI (S' := []) (t := .int) B e31_24 (Or.inl (⟨(10 : Int32), rfl, rfl, (by unfold symP; omega), (by decide), rfl⟩))
           ·have c11i := c11
            simp only [Int32.lt_iff_toInt_lt, ← Int32.toInt_inj, Int32.reduceToInt] at c11i
            refine Ow.icmpT (pc' := 25) B e31_19 (feq c11).2 ?_
            refine Ow.iinc (pc' := 28) (y := 11) (Ls' := #[.val (.ref pa0), .val (.int px0), .val (.int 0), .val (.int 15), .val (.int px0.toInt8.toInt32), .val (.int 11)]) B e31_25 ?_
            refine Ow.goto (pc' := 7) B e31_28 ?_
            refine Ow.iload (pc' := 9) B e31_7 ?_
            refine Ow.iloadN (pc' := 10) B e31_9 ?_
            refine Ow.icmpF (pc' := 13) B e31_10 (by decide) ?_
            refine Ow.aloadN (pc' := 14) B e31_13 ?_
            refine Ow.iload (pc' := 16) B e31_14 ?_
            refine Ow.baload (pc' := 17) B e31_16 hf0 ⟨by decide, by decide⟩ rfl ?_
            refine Ow.iload (pc' := 19) B e31_17 ?_
            by_cases c12 : (95 : Int32) = px0.toInt8.toInt32
            ·have c12i := c12
             simp only [Int32.lt_iff_toInt_lt, ← Int32.toInt_inj, Int32.reduceToInt] at c12i
             refine Ow.icmpF (pc' := 22) B e31_19 (teq c12).2 ?_
             refine Ow.iload (pc' := 24) B e31_22 ?_
             exact Ow.retI (S' := []) (t := .int) B e31_24 (Or.inl (⟨(11 : Int32), rfl, rfl, (by unfold symP; omega), (by decide), rfl⟩))
            ·have c12i := c12
             simp only [Int32.lt_iff_toInt_lt, ← Int32.toInt_inj, Int32.reduceToInt] at c12i
             refine Ow.icmpT (pc' := 25) B e31_19 (feq c12).2 ?_
             refine Ow.iinc (pc' := 28) (y := 12) (Ls' := #[.val (.ref pa0), .val (.int px0), .val (.int 0), .val (.int 15), .val (.int px0.toInt8.toInt32), .val (.int 12)]) B e31_25 ?_
             refine Ow.goto (pc' := 7) B e31_28 ?_
             refine Ow.iload (pc' := 9) B e31_7 ?_
             refine Ow.iloadN (pc' := 10) B e31_9 ?_
             refine Ow.icmpF (pc' := 13) B e31_10 (by decide) ?_
             refine Ow.aloadN (pc' := 14) B e31_13 ?_
             refine Ow.iload (pc' := 16) B e31_14 ?_
             refine Ow.baload (pc' := 17) B e31_16 hf0 ⟨by decide, by decide⟩ rfl ?_
             refine Ow.iload (pc' := 19) B e31_17 ?_
             by_cases c13 : (96 : Int32) = px0.toInt8.toInt32
             ·have c13i := c13
              simp only [Int32.lt_iff_toInt_lt, ← Int32.toInt_inj, Int32.reduceToInt] at c13i
              refine Ow.icmpF (pc' := 22) B e31_19 (teq c13).2 ?_
              refine Ow.iload (pc' := 24) B e31_22 ?_
              exact Ow.retI (S' := []) (t := .int) B e31_24 (Or.inl (⟨(12 : Int32), rfl, rfl, (by unfold symP; omega), (by decide), rfl⟩))
             ·have c13i := c13
              simp only [Int32.lt_iff_toInt_lt, ← Int32.toInt_inj, Int32.reduceToInt] at c13i
              refine Ow.icmpT (pc' := 25) B e31_19 (feq c13).2 ?_
              refine Ow.iinc (pc' := 28) (y := 13) (Ls' := #[.val (.ref pa0), .val (.int px0), .val (.int 0), .val (.int 15), .val (.int px0.toInt8.toInt32), .val (.int 13)]) B e31_25 ?_
              refine Ow.goto (pc' := 7) B e31_28 ?_
              refine Ow.iload (pc' := 9) B e31_7 ?_
              refine Ow.iloadN (pc' := 10) B e31_9 ?_
              refine Ow.icmpF (pc' := 13) B e31_10 (by decide) ?_
              refine Ow.aloadN (pc' := 14) B e31_13 ?_
              refine Ow.iload (pc' := 16) B e31_14 ?_
              refine Ow.baload (pc' := 17) B e31_16 hf0 ⟨by decide, by decide⟩ rfl ?_
              refine Ow.iload (pc' := 19) B e31_17 ?_
              by_cases c14 : (124 : Int32) = px0.toInt8.toInt32
              ·have c14i := c14
               simp only [Int32.lt_iff_toInt_lt, ← Int32.toInt_inj, Int32.reduceToInt] at c14i
               refine Ow.icmpF (pc' := 22) B e31_19 (teq c14).2 ?_
               refine Ow.iload (pc' := 24) B e31_22 ?_
               exact Ow.retI (S' := []) (t := .int) B e31_24 (Or.inl (⟨(13 : Int32), rfl, rfl, (by unfold symP; omega), (by decide), rfl⟩))
              ·have c14i := c14
               simp only [Int32.lt_iff_toInt_lt, ← Int32.toInt_inj, Int32.reduceToInt] at c14i
               refine Ow.icmpT (pc' := 25) B e31_19 (feq c14).2 ?_
               refine Ow.iinc (pc' := 28) (y := 14) (Ls' := #[.val (.ref pa0), .val (.int px0), .val (.int 0), .val (.int 15), .val (.int px0.toInt8.toInt32), .val (.int 14)]) B e31_25 ?_
               refine Ow.goto (pc' := 7) B e31_28 ?_
               refine Ow.iload (pc' := 9) B e31_7 ?_
               refine Ow.iloadN (pc' := 10) B e31_9 ?_
               refine Ow.icmpF (pc' := 13) B e31_10 (by decide) ?_
               refine Ow.aloadN (pc' := 14) B e31_13 ?_
               refine Ow.iload (pc' := 16) B e31_14 ?_
               refine Ow.baload (pc' := 17) B e31_16 hf0 ⟨by decide, by decide⟩ rfl ?_
               refine Ow.iload (pc' := 19) B e31_17 ?_
               by_cases c15 : (126 : Int32) = px0.toInt8.toInt32
               ·have c15i := c15
                simp only [Int32.lt_iff_toInt_lt, ← Int32.toInt_inj, Int32.reduceToInt] at c15i
                refine Ow.icmpF (pc' := 22) B e31_19 (teq c15).2 ?_
                refine Ow.iload (pc' := 24) B e31_22 ?_
                exact Ow.retI (S' := []) (t := .int) B e31_24 (Or.inl (⟨(14 : Int32), rfl, rfl, (by unfold symP; omega), (by decide), rfl⟩))
               ·have c15i := c15
                simp only [Int32.lt_iff_toInt_lt, ← Int32.toInt_inj, Int32.reduceToInt] at c15i
                refine Ow.icmpT (pc' := 25) B e31_19 (feq c15).2 ?_
                refine Ow.iinc (pc' := 28) (y := 15) (Ls' := #[.val (.ref pa0), .val (.int px0), .val (.int 0), .val (.int 15), .val (.int px0.toInt8.toInt32), .val (.int 15)]) B e31_25 ?_
                refine Ow.goto (pc' := 7) B e31_28 ?_
                refine Ow.iload (pc' := 9) B e31_7 ?_
                refine Ow.iloadN (pc' := 10) B e31_9 ?_
                refine Ow.icmpT (pc' := 31) B e31_10 (by decide) ?_
                refine Ow.iconst (pc' := 32) (x := (-1 : Int32)) B e31_31 ?_
                exact Ow.retI (S' := []) (t := .int) B e31_32 (Or.inr (⟨(-1 : Int32), rfl, rfl, (by unfold symP; omega), (by decide), rfl⟩))
set_option maxRecDepth 65536 in
set_option maxHeartbeats 40000000 in
theorem con_indexOf_41 (hw : Hw a0 Z) (G : Ow.Glo Z cz sf) (GS : GlS Z) {pa0 : Nat} {px0 : Int32} {pk0 : ClassId} {h0 : Heap} (O0 : Old Z n0 h0) (hf0 : Arv Z h0 pa0 pk0 .byte (15 : Int32) [(.int 33), (.int 35), (.int 36), (.int 37), (.int 38), (.int 39), (.int 42), (.int 43), (.int 45), (.int 46), (.int 94), (.int 95), (.int 96), (.int 124), (.int 126)] (.int 0)) (hk0 : ¬ (px0 < (0 : Int32))) (hc_px0 : nar .char px0 = px0) :
    Ow.Con l Z EL1 n0 my29 jdk_43_method_22_code 4 (Option.some Jvm.ClassFile.FieldType.int) [] ({ frames := 1, cells := 0, slots := 0, locals := 17 } : Room) #[(.ref pa0), (.int px0), (.int 0), (.int 15)] [] h0 (fun v h S' => (∃ i0 : Int32, v = some (.int i0) ∧ h = h0 ∧ ¬ (symP px0) ∧ i0 < (0 : Int32) ∧ S' = []) ∨ (∃ i0 : Int32, v = some (.int i0) ∧ h = h0 ∧ symP px0 ∧ ¬ (i0 < (0 : Int32)) ∧ S' = [])) := by
 refine Ow.Con.enter (Ls := #[.val (.ref pa0), .val (.int px0), .val (.int 0), .val (.int 15)]) (plainFor_of_name pn4) O0 (hEW hw) (hSA hw) ?_
 intro p e s m below meth c B
 have z0 := Ow.old_le O0
 have lpa0 : (pa0 : Nat) < h0.size := hf0.lt
 refine Ow.iloadN (pc' := 1) B e27_0 ?_
 refine Ow.Go.old (fun o1 => ?_)
 refine Ow.callStatic (pc' := 4) (W := 0) (k' := 0) (n' := 0) (argsL := [(.int px0)]) (rest := []) B e27_1 (w98 hw) (w99 hw) (w73 hw) (w100 hw) (con_canEncode_37 hw G GS (px0 := px0) o1 (hk0) hc_px0) pd12 ?_
 intro vq2 h3 S4 q2 zh3
 rcases q2 with q2 | q2
 ·obtain ⟨rfl, rfl, c5, rfl⟩ := q2
  refine Ow.Go.nr (S' := []) (st' := [(.int 0)]) ?_
  refine Ow.ifF (pc' := 7) B e27_4 (by decide) ?_
  refine Ow.iconst (pc' := 8) (x := (-1 : Int32)) B e27_7 ?_
  exact Ow.retI (S' := []) (t := .int) B e27_8 (Or.inl (⟨(-1 : Int32), rfl, rfl, (own_nosym c5), (by decide), rfl⟩))
 ·obtain ⟨rfl, rfl, c6, rfl⟩ := q2
  refine Ow.Go.nr (S' := []) (st' := [(.int 1)]) ?_
  refine Ow.ifT (pc' := 9) B e27_4 (by decide) ?_
  refine Ow.iloadN (pc' := 10) B e27_9 ?_
  refine Ow.iconst (pc' := 11) (x := 0) B e27_10 ?_
  refine Ow.Go.old (fun o7 => ?_)
  refine Ow.callStatic (pc' := 14) (W := 0) (k' := 0) (n' := 0) (argsL := [(.int 0), (.int 0)]) (rest := []) B e27_11 (w101 hw) (w102 hw) (w103 hw) (w104 hw) (con_max_38 hw G GS o7) pd20 ?_
  intro vq8 h9 S10 q8 zh9
  obtain ⟨rfl, rfl, rfl⟩ := q8
  refine Ow.Go.nr (S' := []) (st' := [(.int 0)]) ?_
  refine Ow.istoreN (pc' := 15) (Ls' := #[.val (.ref pa0), .val (.int px0), .val (.int 0), .val (.int 15)]) B e27_14 ?_
  refine Ow.iloadN (pc' := 16) B e27_15 ?_
  refine Ow.aloadN (pc' := 17) B e27_16 ?_
  refine Ow.arrlen (pc' := 18) B e27_17 hf0 ?_
  refine Ow.Go.old (fun o11 => ?_)
  refine Ow.callStatic (pc' := 21) (W := 0) (k' := 0) (n' := 0) (argsL := [(.int 15), (.int 15)]) (rest := []) B e27_18 (w105 hw) (w106 hw) (w103 hw) (w107 hw) (con_min_39 hw G GS o11) pd20 ?_
  intro vq12 h13 S14 q12 zh13
  obtain ⟨rfl, rfl, rfl⟩ := q12
  refine Ow.Go.nr (S' := []) (st' := [(.int 15)]) ?_
  refine Ow.istoreN (pc' := 22) (Ls' := #[.val (.ref pa0), .val (.int px0), .val (.int 0), .val (.int 15)]) B e27_21 ?_
  refine Ow.iloadN (pc' := 23) B e27_22 ?_
  refine Ow.iloadN (pc' := 24) B e27_23 ?_
  refine Ow.icmpT (pc' := 29) B e27_24 (by decide) ?_
  refine Ow.aloadN (pc' := 30) B e27_29 ?_
  refine Ow.iloadN (pc' := 31) B e27_30 ?_
  refine Ow.iloadN (pc' := 32) B e27_31 ?_
  refine Ow.iloadN (pc' := 33) B e27_32 ?_
  refine Ow.Go.old (fun o15 => ?_)
  refine Ow.callStatic (pc' := 36) (W := 0) (k' := 0) (n' := 0) (argsL := [(.ref pa0), (.int px0), (.int 0), (.int 15)]) (rest := []) B e27_33 (w108 hw) (w109 hw) (w73 hw) (w110 hw) (con_indexOfChar_40 hw G GS (pa0 := pa0) (px0 := px0) (pk0 := pk0) o15 hf0 (hk0) (c6) hc_px0) pd21 ?_
  intro vq16 h17 S18 q16 zh17
  rcases q16 with q16 | q16
  ·obtain ⟨y19, rfl, rfl, c20, c21, rfl⟩ := q16
   refine Ow.Go.nr (S' := []) (st' := [(.int y19)]) ?_
   exact Ow.retI (S' := []) (t := .int) B e27_36 (Or.inr (⟨y19, rfl, rfl, c20, c21, rfl⟩))
  ·obtain ⟨y22, rfl, rfl, c23, c24, rfl⟩ := q16
   refine Ow.Go.nr (S' := []) (st' := [(.int y22)]) ?_
   exact Ow.retI (S' := []) (t := .int) B e27_36 (Or.inl (⟨y22, rfl, rfl, c23, c24, rfl⟩))
set_option maxRecDepth 65536 in
set_option maxHeartbeats 40000000 in
theorem con_indexOf_42 (hw : Hw a0 Z) (G : Ow.Glo Z cz sf) (GS : GlS Z) {pa0 : Nat} {pa1 : Nat} {px0 : Int32} {pk0 : ClassId} {h0 : Heap} (O0 : Old Z n0 h0) (hf0 : Exa Z h0 pa0 "java/lang/String") (hf1 : Fld Z h0 pa0 "java/lang/String" "coder" "B" (.int 0)) (hf2 : Fld Z h0 pa0 "java/lang/String" "value" "[B" (.ref pa1)) (hf3 : Arv Z h0 pa1 pk0 .byte (15 : Int32) [(.int 33), (.int 35), (.int 36), (.int 37), (.int 38), (.int 39), (.int 42), (.int 43), (.int 45), (.int 46), (.int 94), (.int 95), (.int 96), (.int 124), (.int 126)] (.int 0)) (hk0 : ¬ (px0 < (0 : Int32))) (hc_px0 : nar .char px0 = px0) :
    Ow.Con l Z EL1 n0 my30 jdk_42_method_80_code 3 (Option.some Jvm.ClassFile.FieldType.int) [] ({ frames := 2, cells := 0, slots := 0, locals := 32 } : Room) #[(.ref pa0), (.int px0), (.int 0)] [] h0 (fun v h S' => (∃ i0 : Int32, v = some (.int i0) ∧ h = h0 ∧ ¬ (symP px0) ∧ i0 < (0 : Int32) ∧ S' = []) ∨ (∃ i0 : Int32, v = some (.int i0) ∧ h = h0 ∧ symP px0 ∧ ¬ (i0 < (0 : Int32)) ∧ S' = [])) := by
 refine Ow.Con.enter (Ls := #[.val (.ref pa0), .val (.int px0), .val (.int 0)]) (plainFor_of_name pn1) O0 (hEW hw) (hSA hw) ?_
 intro p e s m below meth c B
 have z0 := Ow.old_le O0
 have lpa0 : (pa0 : Nat) < h0.size := hf0.lt
 have lpa1 : (pa1 : Nat) < h0.size := hf3.lt
 refine Ow.aloadN (pc' := 1) B e26_0 ?_
 refine Ow.Go.old (fun o1 => ?_)
 refine Ow.callVirtual (pc' := 4) (W := 0) (k' := 0) (n' := 0) (argsL := []) (rest := []) (K := "java/lang/String") B e26_1 (w66 hw) (w67 hw) (w69 hw) (w69 hw) (w68 hw) (w8 hw) (w70 hw) hf0 (con_isLatin1_34 hw G GS (pa0 := pa0) o1 hf1) pd3 ?_
 intro vq2 h3 S4 q2 zh3
 obtain ⟨rfl, rfl, rfl⟩ := q2
 refine Ow.Go.nr (S' := []) (st' := [(.int 1)]) ?_
 refine Ow.ifF (pc' := 7) B e26_4 (by decide) ?_
 refine Ow.aloadN (pc' := 8) B e26_7 ?_
 refine Ow.getfield (pc' := 11) B e26_8 (w26 hw) Via.refl hf2 ?_
 refine Ow.iloadN (pc' := 12) B e26_11 ?_
 refine Ow.iloadN (pc' := 13) B e26_12 ?_
 refine Ow.aloadN (pc' := 14) B e26_13 ?_
 refine Ow.Go.old (fun o5 => ?_)
 refine Ow.callVirtual (pc' := 17) (W := 3) (k' := 0) (n' := 0) (argsL := []) (rest := [(.int 0), (.int px0), (.ref pa1)]) (K := "java/lang/String") B e26_14 (w94 hw) (w52 hw) (w54 hw) (w54 hw) (w53 hw) (w8 hw) (w55 hw) hf0 (con_length_36 hw G GS (pa0 := pa0) (pa1 := pa1) (pk0 := pk0) o5 hf0 hf1 hf2 hf3) pd14 ?_
 intro vq6 h7 S8 q6 zh7
 obtain ⟨rfl, rfl, rfl⟩ := q6
 refine Ow.Go.nr (S' := []) (st' := [(.int 15), (.int 0), (.int px0), (.ref pa1)]) ?_
 refine Ow.Go.old (fun o9 => ?_)
 refine Ow.callStatic (pc' := 20) (W := 0) (k' := 0) (n' := 0) (argsL := [(.ref pa1), (.int px0), (.int 0), (.int 15)]) (rest := []) B e26_17 (w95 hw) (w96 hw) (w73 hw) (w97 hw) (con_indexOf_41 hw G GS (pa0 := pa1) (px0 := px0) (pk0 := pk0) o9 hf3 (hk0) hc_px0) pd21 ?_
 intro vq10 h11 S12 q10 zh11
 rcases q10 with q10 | q10
 ·obtain ⟨y13, rfl, rfl, c14, c15, rfl⟩ := q10
  refine Ow.Go.nr (S' := []) (st' := [(.int y13)]) ?_
  refine Ow.goto (pc' := 36) B e26_20 ?_
  exact Ow.retI (S' := []) (t := .int) B e26_36 (Or.inl (⟨y13, rfl, rfl, c14, c15, rfl⟩))
 ·obtain ⟨y16, rfl, rfl, c17, c18, rfl⟩ := q10
  refine Ow.Go.nr (S' := []) (st' := [(.int y16)]) ?_
  refine Ow.goto (pc' := 36) B e26_20 ?_
  exact Ow.retI (S' := []) (t := .int) B e26_36 (Or.inr (⟨y16, rfl, rfl, c17, c18, rfl⟩))
set_option maxRecDepth 65536 in
set_option maxHeartbeats 40000000 in
theorem con_indexOf_43 (hw : Hw a0 Z) (G : Ow.Glo Z cz sf) (GS : GlS Z) {pa0 : Nat} {pa1 : Nat} {px0 : Int32} {pk0 : ClassId} {h0 : Heap} (O0 : Old Z n0 h0) (hf0 : Exa Z h0 pa0 "java/lang/String") (hf1 : Fld Z h0 pa0 "java/lang/String" "coder" "B" (.int 0)) (hf2 : Fld Z h0 pa0 "java/lang/String" "value" "[B" (.ref pa1)) (hf3 : Arv Z h0 pa1 pk0 .byte (15 : Int32) [(.int 33), (.int 35), (.int 36), (.int 37), (.int 38), (.int 39), (.int 42), (.int 43), (.int 45), (.int 46), (.int 94), (.int 95), (.int 96), (.int 124), (.int 126)] (.int 0)) (hk0 : ¬ (px0 < (0 : Int32))) (hc_px0 : nar .char px0 = px0) :
    Ow.Con l Z EL1 n0 my31 jdk_42_method_79_code 2 (Option.some Jvm.ClassFile.FieldType.int) [] ({ frames := 3, cells := 0, slots := 0, locals := 46 } : Room) #[(.ref pa0), (.int px0)] [] h0 (fun v h S' => (∃ i0 : Int32, v = some (.int i0) ∧ h = h0 ∧ ¬ (symP px0) ∧ i0 < (0 : Int32) ∧ S' = []) ∨ (∃ i0 : Int32, v = some (.int i0) ∧ h = h0 ∧ symP px0 ∧ ¬ (i0 < (0 : Int32)) ∧ S' = [])) := by
 refine Ow.Con.enter (Ls := #[.val (.ref pa0), .val (.int px0)]) (plainFor_of_name pn1) O0 (hEW hw) (hSA hw) ?_
 intro p e s m below meth c B
 have z0 := Ow.old_le O0
 have lpa0 : (pa0 : Nat) < h0.size := hf0.lt
 have lpa1 : (pa1 : Nat) < h0.size := hf3.lt
 refine Ow.aloadN (pc' := 1) B e25_0 ?_
 refine Ow.iloadN (pc' := 2) B e25_1 ?_
 refine Ow.iconst (pc' := 3) (x := 0) B e25_2 ?_
 refine Ow.Go.old (fun o1 => ?_)
 refine Ow.callVirtual (pc' := 6) (W := 0) (k' := 0) (n' := 0) (argsL := [(.int px0), (.int 0)]) (rest := []) (K := "java/lang/String") B e25_3 (w89 hw) (w90 hw) (w92 hw) (w92 hw) (w91 hw) (w8 hw) (w93 hw) hf0 (con_indexOf_42 hw G GS (pa0 := pa0) (pa1 := pa1) (px0 := px0) (pk0 := pk0) o1 hf0 hf1 hf2 hf3 (hk0) hc_px0) pd20 ?_
 intro vq2 h3 S4 q2 zh3
 rcases q2 with q2 | q2
 ·obtain ⟨y5, rfl, rfl, c6, c7, rfl⟩ := q2
  refine Ow.Go.nr (S' := []) (st' := [(.int y5)]) ?_
  exact Ow.retI (S' := []) (t := .int) B e25_6 (Or.inl (⟨y5, rfl, rfl, c6, c7, rfl⟩))
 ·obtain ⟨y8, rfl, rfl, c9, c10, rfl⟩ := q2
  refine Ow.Go.nr (S' := []) (st' := [(.int y8)]) ?_
  exact Ow.retI (S' := []) (t := .int) B e25_6 (Or.inr (⟨y8, rfl, rfl, c9, c10, rfl⟩))
set_option maxRecDepth 65536 in
set_option maxHeartbeats 40000000 in
theorem con_isToken_44 (hw : Hw a0 Z) (G : Ow.Glo Z cz sf) (GS : GlS Z) {pa0 : Nat} {pa1 : Nat} {px0 : Int32} {pk0 : ClassId} {h0 : Heap} (O0 : Old Z n0 h0) (hf0 : Ow.Chs Z h0 pa0 pa1 pk0 [px0]) (hn0 : n0 ≤ pa0) (hn1 : n0 ≤ pa1) (hk0 : ¬ (px0 < (0 : Int32))) (hk1 : ¬ ((65535 : Int32) < px0)) (hk2 : ¬ (tokP px0)) (hc_px0 : nar .char px0 = px0) :
    Ow.Con l Z EL1 n0 my4 prog_28_method_5_code 4 (Option.some Jvm.ClassFile.FieldType.boolean) [] ({ frames := 5, cells := 2, slots := 64, locals := 66 } : Room) #[(.ref pa0)] [] h0 (fun v h S' => (v = some (.int 0) ∧ Keep h0 h [] ∧ ¬ (symP px0) ∧ S' = [])) := by
 refine Ow.Con.enter (Ls := #[.val (.ref pa0), .unset, .unset, .unset]) (plainFor_of_name pn2) O0 (hEW hw) (hSA hw) ?_
 intro p e s m below meth c B
 have z0 := Ow.old_le O0
 have lpa0 : (pa0 : Nat) < h0.size := hf0.lt
 have lpa1 : (pa1 : Nat) < h0.size := hf0.ltt
 refine Ow.aloadN (pc' := 1) B e0_0 ?_
 refine Ow.Go.old (fun o1 => ?_)
 refine Ow.callVirtual (pc' := 4) (W := 0) (k' := 0) (n' := 0) (argsL := []) (rest := []) (K := "java/lang/String") B e0_1 (w32 hw) (w33 hw) (w35 hw) (w35 hw) (w34 hw) (w8 hw) (w36 hw) (hf0).1 (con_isEmpty_20 hw G GS (pa0 := pa0) (pa1 := pa1) (px0 := px0) (pk0 := pk0) o1 hf0 (by omega) (by omega) hc_px0) pd3 ?_
 intro vq2 h3 S4 q2 zh3
 obtain ⟨rfl, rfl, rfl⟩ := q2
 refine Ow.Go.nr (S' := []) (st' := [(.int 0)]) ?_
 refine Ow.ifT (pc' := 9) B e0_4 (by decide) ?_
 refine Ow.iconst (pc' := 10) (x := 0) B e0_9 ?_
 refine Ow.istoreN (pc' := 11) (Ls' := #[.val (.ref pa0), .val (.int 0), .unset, .unset]) B e0_10 ?_
 refine Ow.iloadN (pc' := 12) B e0_11 ?_
 refine Ow.aloadN (pc' := 13) B e0_12 ?_
 refine Ow.Go.old (fun o5 => ?_)
 refine Ow.callVirtual (pc' := 16) (W := 1) (k' := 0) (n' := 0) (argsL := []) (rest := [(.int 0)]) (K := "java/lang/String") B e0_13 (w51 hw) (w52 hw) (w54 hw) (w54 hw) (w53 hw) (w8 hw) (w55 hw) (hf0).1 (con_length_23 hw G GS (pa0 := pa0) (pa1 := pa1) (px0 := px0) (pk0 := pk0) o5 hf0 (by omega) (by omega) hc_px0) pd14 ?_
 intro vq6 h7 S8 q6 zh7
 obtain ⟨rfl, rfl, rfl⟩ := q6
 refine Ow.Go.nr (S' := []) (st' := [(.int 1), (.int 0)]) ?_
 refine Ow.icmpF (pc' := 19) B e0_16 (by decide) ?_
 refine Ow.aloadN (pc' := 20) B e0_19 ?_
 refine Ow.iloadN (pc' := 21) B e0_20 ?_
 refine Ow.Go.old (fun o9 => ?_)
 refine Ow.callVirtual (pc' := 24) (W := 0) (k' := 0) (n' := 0) (argsL := [(.int 0)]) (rest := []) (K := "java/lang/String") B e0_21 (w61 hw) (w62 hw) (w64 hw) (w64 hw) (w63 hw) (w8 hw) (w65 hw) (hf0).1 (con_charAt_33 hw G GS (pa0 := pa0) (pa1 := pa1) (px0 := px0) (pk0 := pk0) o9 hf0 (by omega) (by omega) (hk0) (hk1) hc_px0) pd19 ?_
 intro vq10 h11 S12 q10 zh11
 obtain ⟨rfl, rfl, rfl⟩ := q10
 refine Ow.Go.nr (S' := []) (st' := [(.int px0)]) ?_
 refine Ow.istoreN (pc' := 25) (Ls' := #[.val (.ref pa0), .val (.int 0), .val (.int px0), .unset]) B e0_24 ?_
 by_cases c13 : alP px0
 ·exact absurd (Or.inl c13) (hk2)
 ·refine blk_no_u hw B (pb := 0) ⟨hk0, hk1⟩ c13 (fun b14 => ?_)
  refine Ow.ldcText (pc' := 73) (k' := 2) (n' := 64) (nn := 60) (vs := [(.int 33), (.int 35), (.int 36), (.int 37), (.int 38), (.int 39), (.int 42), (.int 43), (.int 45), (.int 46), (.int 94), (.int 95), (.int 96), (.int 124), (.int 126)]) (z := 15) B e0_71 (w83 hw) (by decide) ⟨by decide, by decide⟩ (by decide) (by decide) ?_
  intro h16 a15 t17 kt17 Kh16 Ea15 Ca15 Va15 At17 Na15
  have zh16 := Kh16.1
  have la15 : (a15 : Nat) < h16.size := Ea15.lt
  have lt17 : (t17 : Nat) < h16.size := At17.lt
  refine Ow.iloadN (pc' := 74) B e0_73 ?_
  refine Ow.Go.old (fun o18 => ?_)
  refine Ow.callVirtual (pc' := 77) (W := 0) (k' := 2) (n' := 64) (argsL := [(.int px0)]) (rest := []) (K := "java/lang/String") B e0_74 (w84 hw) (w85 hw) (w87 hw) (w87 hw) (w86 hw) (w8 hw) (w88 hw) Ea15 (con_indexOf_43 hw G GS (pa0 := a15) (pa1 := t17) (px0 := px0) (pk0 := kt17) o18 Ea15 Ca15 Va15 At17 (hk0) hc_px0) pd6 ?_
  intro vq19 h20 S21 q19 zh20
  rcases q19 with q19 | q19
  ·obtain ⟨y22, rfl, rfl, c23, c24, rfl⟩ := q19
   refine Ow.Go.nr (S' := []) (st' := [(.int y22)]) ?_
   refine Ow.ifF (pc' := 80) B e0_77 (tlt (c24)).2.1 ?_
   refine Ow.iconst (pc' := 81) (x := 0) B e0_80 ?_
   exact Ow.retI (S' := []) (t := .boolean) B e0_81 (⟨rfl, ((Keep.refl _ []).trans Kh16 (fun _ q => nomatch q)), c23, rfl⟩)
  ·obtain ⟨y25, rfl, rfl, c26, c27, rfl⟩ := q19
   refine Ow.Go.nr (S' := []) (st' := [(.int y25)]) ?_
   refine Ow.ifT (pc' := 82) B e0_77 (flt (c27)).2.1 ?_
   exact absurd (Or.inr (c26)) (hk2)
set_option maxRecDepth 65536 in
set_option maxHeartbeats 40000000 in
theorem seg132_2 (hw : Hw a0 Z) (G : Ow.Glo Z cz sf) (GS : GlS Z) {pa0 : Nat} {pa1 : Nat} {px0 : Int32} {pk0 : ClassId} {dl0 : Int32} {dl1 : Int32} {dl2 : Int32} {dl3 : Int32} {dl4 : Int32} {dl5 : Int32} {dl6 : Int32} {dl7 : Int32} {dl8 : Int32} {dl9 : Int32} {p : Program} {e : Env} {s : State} {m : MethodId} {args : Array Value} {below : List Frame} {meth : Method} {c : ClassFile.Code} (B : Ow.Bdy p meth c Z EL1 a0 code maxLocals ret x.name) {h0 : Heap} (O0 : Old Z n0 h0) (hf0 : Ow.Chs Z h0 pa0 pa1 pk0 [px0]) (hn0 : n0 ≤ pa0) (hn1 : n0 ≤ pa1) (hk0 : ¬ (px0 < (0 : Int32))) (hk1 : ¬ ((65535 : Int32) < px0)) (hk2 : ¬ (tokP px0)) (hc_px0 : nar .char px0 = px0) :
  Ow.Go p l e room_1 s m args below meth c Z EL1 n0 x.cls (fun v _ _ => v = some (.int 1)) [] h0 22 2112 132 #[.val (.int dl0), .val (.int dl1), .val (.int dl2), .val (.int dl3), .val (.int dl4), .val (.int dl5), .val (.int dl6), .val (.int dl7), .val (.int dl8), .val (.int dl9), .val (.ref pa0), .val (.int 0)] [] := by
 have z0 := Ow.old_le O0
 have lpa0 : (pa0 : Nat) < h0.size := hf0.lt
 have lpa1 : (pa1 : Nat) < h0.size := hf0.ltt
 refine Ow.aload (pc' := 134) B at_132 ?_
 refine Ow.Go.old (fun o1 => ?_)
 refine Ow.callStatic (pc' := 137) (W := 0) (k' := 24) (n' := 2176) (argsL := [(.ref pa0)]) (rest := []) B at_134 (w28 hw) (w29 hw) (w30 hw) (w31 hw) (con_isToken_44 hw G GS (pa0 := pa0) (pa1 := pa1) (px0 := px0) (pk0 := pk0) o1 hf0 (by omega) (by omega) (hk0) (hk1) (hk2) hc_px0) pd4 ?_
 intro vq2 h3 S4 q2 zh3
 obtain ⟨rfl, Kh3, c5, rfl⟩ := q2
 refine Ow.Go.nr (S' := []) (st' := [(.int 0)]) ?_
 refine Ow.iload (pc' := 139) B at_137 ?_
 refine Ow.icmpF (pc' := 142) B at_139 (by decide) ?_
 refine Ow.iconst (pc' := 143) (x := 1) B at_142 ?_
 refine Ow.goto (pc' := 147) B at_143 ?_
 exact Ow.retI (S' := []) (t := .boolean) B at_147 (rfl)
set_option maxRecDepth 65536 in
set_option maxHeartbeats 40000000 in
theorem con_isToken_45 (hw : Hw a0 Z) (G : Ow.Glo Z cz sf) (GS : GlS Z) {pa0 : Nat} {pa1 : Nat} {px0 : Int32} {pk0 : ClassId} {h0 : Heap} (O0 : Old Z n0 h0) (hf0 : Ow.Chs Z h0 pa0 pa1 pk0 [px0]) (hn0 : n0 ≤ pa0) (hn1 : n0 ≤ pa1) (hk0 : ¬ (px0 < (0 : Int32))) (hk1 : ¬ ((65535 : Int32) < px0)) (hk2 : tokP px0) (hc_px0 : nar .char px0 = px0) :
    Ow.Con l Z EL1 n0 my4 prog_28_method_5_code 4 (Option.some Jvm.ClassFile.FieldType.boolean) [] ({ frames := 5, cells := 2, slots := 64, locals := 66 } : Room) #[(.ref pa0)] [] h0 (fun v h S' => (v = some (.int 1) ∧ Keep h0 h [] ∧ S' = [])) := by
 refine Ow.Con.enter (Ls := #[.val (.ref pa0), .unset, .unset, .unset]) (plainFor_of_name pn2) O0 (hEW hw) (hSA hw) ?_
 intro p e s m below meth c B
 have z0 := Ow.old_le O0
 have lpa0 : (pa0 : Nat) < h0.size := hf0.lt
 have lpa1 : (pa1 : Nat) < h0.size := hf0.ltt
 refine Ow.aloadN (pc' := 1) B e0_0 ?_
 refine Ow.Go.old (fun o1 => ?_)
 refine Ow.callVirtual (pc' := 4) (W := 0) (k' := 0) (n' := 0) (argsL := []) (rest := []) (K := "java/lang/String") B e0_1 (w32 hw) (w33 hw) (w35 hw) (w35 hw) (w34 hw) (w8 hw) (w36 hw) (hf0).1 (con_isEmpty_20 hw G GS (pa0 := pa0) (pa1 := pa1) (px0 := px0) (pk0 := pk0) o1 hf0 (by omega) (by omega) hc_px0) pd3 ?_
 intro vq2 h3 S4 q2 zh3
 obtain ⟨rfl, rfl, rfl⟩ := q2
 refine Ow.Go.nr (S' := []) (st' := [(.int 0)]) ?_
 refine Ow.ifT (pc' := 9) B e0_4 (by decide) ?_
 refine Ow.iconst (pc' := 10) (x := 0) B e0_9 ?_
 refine Ow.istoreN (pc' := 11) (Ls' := #[.val (.ref pa0), .val (.int 0), .unset, .unset]) B e0_10 ?_
 refine Ow.iloadN (pc' := 12) B e0_11 ?_
 refine Ow.aloadN (pc' := 13) B e0_12 ?_
 refine Ow.Go.old (fun o5 => ?_)
 refine Ow.callVirtual (pc' := 16) (W := 1) (k' := 0) (n' := 0) (argsL := []) (rest := [(.int 0)]) (K := "java/lang/String") B e0_13 (w51 hw) (w52 hw) (w54 hw) (w54 hw) (w53 hw) (w8 hw) (w55 hw) (hf0).1 (con_length_23 hw G GS (pa0 := pa0) (pa1 := pa1) (px0 := px0) (pk0 := pk0) o5 hf0 (by omega) (by omega) hc_px0) pd14 ?_
 intro vq6 h7 S8 q6 zh7
 obtain ⟨rfl, rfl, rfl⟩ := q6
 refine Ow.Go.nr (S' := []) (st' := [(.int 1), (.int 0)]) ?_
 refine Ow.icmpF (pc' := 19) B e0_16 (by decide) ?_
 refine Ow.aloadN (pc' := 20) B e0_19 ?_
 refine Ow.iloadN (pc' := 21) B e0_20 ?_
 refine Ow.Go.old (fun o9 => ?_)
 refine Ow.callVirtual (pc' := 24) (W := 0) (k' := 0) (n' := 0) (argsL := [(.int 0)]) (rest := []) (K := "java/lang/String") B e0_21 (w61 hw) (w62 hw) (w64 hw) (w64 hw) (w63 hw) (w8 hw) (w65 hw) (hf0).1 (con_charAt_33 hw G GS (pa0 := pa0) (pa1 := pa1) (px0 := px0) (pk0 := pk0) o9 hf0 (by omega) (by omega) (hk0) (hk1) hc_px0) pd19 ?_
 intro vq10 h11 S12 q10 zh11
 obtain ⟨rfl, rfl, rfl⟩ := q10
 refine Ow.Go.nr (S' := []) (st' := [(.int px0)]) ?_
 refine Ow.istoreN (pc' := 25) (Ls' := #[.val (.ref pa0), .val (.int 0), .val (.int px0), .unset]) B e0_24 ?_
 refine Ow.Go.joinH (α := Int32) (pc1 := 82) (k1 := 2) (n1 := 64) (fun b => #[.val (.ref pa0), .val (.int 0), .val (.int px0), .val (.int b)]) (fun _ => []) ?_ ?_
 ·intro h14 Kh14 b13
  have zh14 := Kh14.1
  refine Ow.iinc (pc' := 85) (y := 1) (Ls' := #[.val (.ref pa0), .val (.int 1), .val (.int px0), .val (.int b13)]) B e0_82 ?_
  refine Ow.goto (pc' := 11) B e0_85 ?_
  refine Ow.iloadN (pc' := 12) B e0_11 ?_
  refine Ow.aloadN (pc' := 13) B e0_12 ?_
  refine Ow.Go.old (fun o15 => ?_)
  have f16 := hf0.keep Kh14 Ow.nin0 Ow.nin0
  refine Ow.callVirtual (pc' := 16) (W := 1) (k' := 2) (n' := 64) (argsL := []) (rest := [(.int 1)]) (K := "java/lang/String") B e0_13 (w51 hw) (w52 hw) (w54 hw) (w54 hw) (w53 hw) (w8 hw) (w55 hw) (f16).1 (con_length_23 hw G GS (pa0 := pa0) (pa1 := pa1) (px0 := px0) (pk0 := pk0) o15 f16 (by omega) (by omega) hc_px0) pd14 ?_
  intro vq17 h18 S19 q17 zh18
  obtain ⟨rfl, rfl, rfl⟩ := q17
  refine Ow.Go.nr (S' := []) (st' := [(.int 1), (.int 1)]) ?_
  refine Ow.icmpT (pc' := 88) B e0_16 (by decide) ?_
  refine Ow.iconst (pc' := 89) (x := 1) B e0_88 ?_
  exact Ow.retI (S' := []) (t := .boolean) B e0_89 (⟨rfl, ((Keep.refl _ []).trans Kh14 (fun _ q => nomatch q)), rfl⟩)
 ·intro J20
  by_cases c21 : alP px0
  ·refine blk_al_u hw B (pb := 0) ⟨hk0, hk1⟩ c21 (fun b22 => ?_)
   exact Ow.Go.mono (k' := 2) (n' := 64) (by decide) (by decide) (by simp) (J20 _ (Keep.refl _ []) _)
  ·refine blk_no_u hw B (pb := 0) ⟨hk0, hk1⟩ c21 (fun b23 => ?_)
   refine Ow.ldcText (pc' := 73) (k' := 2) (n' := 64) (nn := 60) (vs := [(.int 33), (.int 35), (.int 36), (.int 37), (.int 38), (.int 39), (.int 42), (.int 43), (.int 45), (.int 46), (.int 94), (.int 95), (.int 96), (.int 124), (.int 126)]) (z := 15) B e0_71 (w83 hw) (by decide) ⟨by decide, by decide⟩ (by decide) (by decide) ?_
   intro h25 a24 t26 kt26 Kh25 Ea24 Ca24 Va24 At26 Na24
   have zh25 := Kh25.1
   have la24 : (a24 : Nat) < h25.size := Ea24.lt
   have lt26 : (t26 : Nat) < h25.size := At26.lt
   refine Ow.iloadN (pc' := 74) B e0_73 ?_
   refine Ow.Go.old (fun o27 => ?_)
   refine Ow.callVirtual (pc' := 77) (W := 0) (k' := 2) (n' := 64) (argsL := [(.int px0)]) (rest := []) (K := "java/lang/String") B e0_74 (w84 hw) (w85 hw) (w87 hw) (w87 hw) (w86 hw) (w8 hw) (w88 hw) Ea24 (con_indexOf_43 hw G GS (pa0 := a24) (pa1 := t26) (px0 := px0) (pk0 := kt26) o27 Ea24 Ca24 Va24 At26 (hk0) hc_px0) pd6 ?_
   intro vq28 h29 S30 q28 zh29
   rcases q28 with q28 | q28
   ·obtain ⟨y31, rfl, rfl, c32, c33, rfl⟩ := q28
    refine Ow.Go.nr (S' := []) (st' := [(.int y31)]) ?_
    refine Ow.ifF (pc' := 80) B e0_77 (tlt (c33)).2.1 ?_
    exact absurd (hk2) (fun q => q.elim (fun q => c21 q) (c32))
   ·obtain ⟨y34, rfl, rfl, c35, c36, rfl⟩ := q28
    refine Ow.Go.nr (S' := []) (st' := [(.int y34)]) ?_
    refine Ow.ifT (pc' := 82) B e0_77 (flt (c36)).2.1 ?_
    exact Ow.Go.mono (k' := 2) (n' := 64) (by decide) (by decide) (by simp) (J20 _ ((Keep.refl _ []).trans Kh25 (fun _ q => nomatch q)) _)
set_option maxRecDepth 65536 in
set_option maxHeartbeats 40000000 in
theorem seg132_3 (hw : Hw a0 Z) (G : Ow.Glo Z cz sf) (GS : GlS Z) {pa0 : Nat} {pa1 : Nat} {px0 : Int32} {pk0 : ClassId} {dl0 : Int32} {dl1 : Int32} {dl2 : Int32} {dl3 : Int32} {dl4 : Int32} {dl5 : Int32} {dl6 : Int32} {dl7 : Int32} {dl8 : Int32} {dl9 : Int32} {p : Program} {e : Env} {s : State} {m : MethodId} {args : Array Value} {below : List Frame} {meth : Method} {c : ClassFile.Code} (B : Ow.Bdy p meth c Z EL1 a0 code maxLocals ret x.name) {h0 : Heap} (O0 : Old Z n0 h0) (hf0 : Ow.Chs Z h0 pa0 pa1 pk0 [px0]) (hn0 : n0 ≤ pa0) (hn1 : n0 ≤ pa1) (hk0 : ¬ (px0 < (0 : Int32))) (hk1 : ¬ ((65535 : Int32) < px0)) (hk2 : tokP px0) (hc_px0 : nar .char px0 = px0) :
  Ow.Go p l e room_1 s m args below meth c Z EL1 n0 x.cls (fun v _ _ => v = some (.int 1)) [] h0 22 2112 132 #[.val (.int dl0), .val (.int dl1), .val (.int dl2), .val (.int dl3), .val (.int dl4), .val (.int dl5), .val (.int dl6), .val (.int dl7), .val (.int dl8), .val (.int dl9), .val (.ref pa0), .val (.int 1)] [] := by
 have z0 := Ow.old_le O0
 have lpa0 : (pa0 : Nat) < h0.size := hf0.lt
 have lpa1 : (pa1 : Nat) < h0.size := hf0.ltt
 refine Ow.aload (pc' := 134) B at_132 ?_
 refine Ow.Go.old (fun o1 => ?_)
 refine Ow.callStatic (pc' := 137) (W := 0) (k' := 24) (n' := 2176) (argsL := [(.ref pa0)]) (rest := []) B at_134 (w28 hw) (w29 hw) (w30 hw) (w31 hw) (con_isToken_45 hw G GS (pa0 := pa0) (pa1 := pa1) (px0 := px0) (pk0 := pk0) o1 hf0 (by omega) (by omega) (hk0) (hk1) (hk2) hc_px0) pd4 ?_
 intro vq2 h3 S4 q2 zh3
 obtain ⟨rfl, Kh3, rfl⟩ := q2
 refine Ow.Go.nr (S' := []) (st' := [(.int 1)]) ?_
 refine Ow.iload (pc' := 139) B at_137 ?_
 refine Ow.icmpF (pc' := 142) B at_139 (by decide) ?_
 refine Ow.iconst (pc' := 143) (x := 1) B at_142 ?_
 refine Ow.goto (pc' := 147) B at_143 ?_
 exact Ow.retI (S' := []) (t := .boolean) B at_147 (rfl)
set_option maxRecDepth 65536 in
set_option maxHeartbeats 40000000 in
theorem con_compress_46 (hw : Hw a0 Z) (G : Ow.Glo Z cz sf) (GS : GlS Z) {pa0 : Nat} {pa1 : Nat} {px0 : Int32} {px1 : Int32} {pk0 : ClassId} {pk1 : ClassId} {h0 : Heap} (O0 : Old Z n0 h0) (hf0 : Arv Z h0 pa0 pk0 .char (2 : Int32) [(.int px0), (.int px1)] (.int 0)) (hf1 : Arv Z h0 pa1 pk1 .byte (2 : Int32) [(.int 0), (.int 0)] (.int 0)) (hn0 : n0 ≤ pa0) (hn1 : n0 ≤ pa1) (hd0 : pa0 ≠ pa1) (hc_px0 : nar .char px0 = px0) (hc_px1 : nar .char px1 = px1) :
    Ow.Con l Z EL1 n0 my5 jdk_52_method_21_code 7 (Option.some Jvm.ClassFile.FieldType.int) [] ({ frames := 0, cells := 0, slots := 0, locals := 0 } : Room) #[(.ref pa0), (.int 0), (.ref pa1), (.int 0), (.int 2)] [pa1] h0 (fun v h S' => (v = some (.int 0) ∧ h = h0 ∧ (255 : Int32) < px0 ∧ S' = []) ∨ (v = some (.int 1) ∧ Keep h0 h [pa1] ∧ ¬ ((255 : Int32) < px0) ∧ (255 : Int32) < px1 ∧ Arv Z h pa1 pk1 .byte (2 : Int32) [(.int px0.toInt8.toInt32), (.int 0)] (.int 0) ∧ S' = []) ∨ (v = some (.int 2) ∧ Keep h0 h [pa1] ∧ ¬ ((255 : Int32) < px0) ∧ ¬ ((255 : Int32) < px1) ∧ Arv Z h pa1 pk1 .byte (2 : Int32) [(.int px0.toInt8.toInt32), (.int px1.toInt8.toInt32)] (.int 0) ∧ S' = [])) := by
 refine Ow.Con.enter (Ls := #[.val (.ref pa0), .val (.int 0), .val (.ref pa1), .val (.int 0), .val (.int 2), .unset, .unset]) (plainFor_of_name pn3) O0 (hEW hw) (hSA hw) ?_
 intro p e s m below meth c B
 have z0 := Ow.old_le O0
 have lpa0 : (pa0 : Nat) < h0.size := hf0.lt
 have lpa1 : (pa1 : Nat) < h0.size := hf1.lt
 refine Ow.iconst (pc' := 1) (x := 0) B e6_0 ?_
 refine Ow.istore (pc' := 3) (Ls' := #[.val (.ref pa0), .val (.int 0), .val (.ref pa1), .val (.int 0), .val (.int 2), .val (.int 0), .unset]) B e6_1 ?_
 refine Ow.iload (pc' := 5) B e6_3 ?_
 refine Ow.iload (pc' := 7) B e6_5 ?_
 refine Ow.icmpF (pc' := 10) B e6_7 (by decide) ?_
 refine Ow.aloadN (pc' := 11) B e6_10 ?_
 refine Ow.iloadN (pc' := 12) B e6_11 ?_
 refine Ow.caload (pc' := 13) B e6_12 hf0 ⟨by decide, by decide⟩ rfl ?_
 refine Ow.istore (pc' := 15) (Ls' := #[.val (.ref pa0), .val (.int 0), .val (.ref pa1), .val (.int 0), .val (.int 2), .val (.int 0), .val (.int px0)]) B e6_13 ?_
 refine Ow.iload (pc' := 17) B e6_15 ?_
 refine Ow.sipush (pc' := 20) (x := 255) B e6_17 ?_
 by_cases c1 : (255 : Int32) < px0
 ·refine Ow.icmpF (pc' := 23) B e6_20 (tlt c1).2.2.2 ?_
  refine Ow.iload (pc' := 25) B e6_23 ?_
  exact Ow.retI (S' := []) (t := .int) B e6_25 (Or.inl (⟨rfl, rfl, c1, rfl⟩))
 ·refine Ow.icmpT (pc' := 26) B e6_20 (flt c1).2.2.2 ?_
  refine Ow.aloadN (pc' := 27) B e6_26 ?_
  refine Ow.iloadN (pc' := 28) B e6_27 ?_
  refine Ow.iload (pc' := 30) B e6_28 ?_
  refine Ow.i2b (pc' := 31) (z := px0.toInt8.toInt32) B e6_30 ?_
  refine Ow.bastore (pc' := 32) (i := 0) B e6_31 hf1 ⟨by decide, by decide⟩ (by simp) ?_
  intro h2 Kh2 V0h2
  have zh2 := Kh2.1
  have V3 : Arv Z h2 pa1 pk1 .byte (2 : Int32) [(.int px0.toInt8.toInt32), (.int 0)] (.int 0) := (by have e0 := V0h2; rw [show nar .byte px0.toInt8.toInt32 = px0.toInt8.toInt32 from Ow.nar_b _] at e0; exact e0)
  refine Ow.iinc (pc' := 35) (y := 1) (Ls' := #[.val (.ref pa0), .val (.int 1), .val (.ref pa1), .val (.int 0), .val (.int 2), .val (.int 0), .val (.int px0)]) B e6_32 ?_
  refine Ow.iinc (pc' := 38) (y := 1) (Ls' := #[.val (.ref pa0), .val (.int 1), .val (.ref pa1), .val (.int 1), .val (.int 2), .val (.int 0), .val (.int px0)]) B e6_35 ?_
  refine Ow.iinc (pc' := 41) (y := 1) (Ls' := #[.val (.ref pa0), .val (.int 1), .val (.ref pa1), .val (.int 1), .val (.int 2), .val (.int 1), .val (.int px0)]) B e6_38 ?_
  refine Ow.goto (pc' := 3) B e6_41 ?_
  refine Ow.iload (pc' := 5) B e6_3 ?_
  refine Ow.iload (pc' := 7) B e6_5 ?_
  refine Ow.icmpF (pc' := 10) B e6_7 (by decide) ?_
  refine Ow.aloadN (pc' := 11) B e6_10 ?_
  refine Ow.iloadN (pc' := 12) B e6_11 ?_
  have f4 := hf0.keep Kh2 (Ow.ninS (by omega) Ow.nin0)
  refine Ow.caload (pc' := 13) B e6_12 f4 ⟨by decide, by decide⟩ rfl ?_
  refine Ow.istore (pc' := 15) (Ls' := #[.val (.ref pa0), .val (.int 1), .val (.ref pa1), .val (.int 1), .val (.int 2), .val (.int 1), .val (.int px1)]) B e6_13 ?_
  refine Ow.iload (pc' := 17) B e6_15 ?_
  refine Ow.sipush (pc' := 20) (x := 255) B e6_17 ?_
  by_cases c5 : (255 : Int32) < px1
  ·refine Ow.icmpF (pc' := 23) B e6_20 (tlt c5).2.2.2 ?_
   refine Ow.iload (pc' := 25) B e6_23 ?_
   exact Ow.retI (S' := []) (t := .int) B e6_25 (Or.inr (Or.inl (⟨rfl, ((Keep.refl _ [pa1]).trans Kh2 (allS (Or.inl (by simp)) all0)), c1, c5, V3, rfl⟩)))
  ·refine Ow.icmpT (pc' := 26) B e6_20 (flt c5).2.2.2 ?_
   refine Ow.aloadN (pc' := 27) B e6_26 ?_
   refine Ow.iloadN (pc' := 28) B e6_27 ?_
   refine Ow.iload (pc' := 30) B e6_28 ?_
   refine Ow.i2b (pc' := 31) (z := px1.toInt8.toInt32) B e6_30 ?_
   refine Ow.bastore (pc' := 32) (i := 1) B e6_31 V3 ⟨by decide, by decide⟩ (by simp) ?_
   intro h6 Kh6 V0h6
   have zh6 := Kh6.1
   have V7 : Arv Z h6 pa1 pk1 .byte (2 : Int32) [(.int px0.toInt8.toInt32), (.int px1.toInt8.toInt32)] (.int 0) := (by have e0 := V0h6; rw [show nar .byte px1.toInt8.toInt32 = px1.toInt8.toInt32 from Ow.nar_b _] at e0; exact e0)
   refine Ow.iinc (pc' := 35) (y := 2) (Ls' := #[.val (.ref pa0), .val (.int 2), .val (.ref pa1), .val (.int 1), .val (.int 2), .val (.int 1), .val (.int px1)]) B e6_32 ?_
   refine Ow.iinc (pc' := 38) (y := 2) (Ls' := #[.val (.ref pa0), .val (.int 2), .val (.ref pa1), .val (.int 2), .val (.int 2), .val (.int 1), .val (.int px1)]) B e6_35 ?_
   refine Ow.iinc (pc' := 41) (y := 2) (Ls' := #[.val (.ref pa0), .val (.int 2), .val (.ref pa1), .val (.int 2), .val (.int 2), .val (.int 2), .val (.int px1)]) B e6_38 ?_
   refine Ow.goto (pc' := 3) B e6_41 ?_
   refine Ow.iload (pc' := 5) B e6_3 ?_
   refine Ow.iload (pc' := 7) B e6_5 ?_
   refine Ow.icmpT (pc' := 44) B e6_7 (by decide) ?_
   refine Ow.iload (pc' := 46) B e6_44 ?_
   exact Ow.retI (S' := []) (t := .int) B e6_46 (Or.inr (Or.inr (⟨rfl, (((Keep.refl _ [pa1]).trans Kh2 (allS (Or.inl (by simp)) all0)).trans Kh6 (allS (Or.inl (by simp)) all0)), c1, c5, V7, rfl⟩)))
set_option maxRecDepth 65536 in
set_option maxHeartbeats 40000000 in
theorem con_newBytesLength_47 (hw : Hw a0 Z) (G : Ow.Glo Z cz sf) (GS : GlS Z) {h0 : Heap} (O0 : Old Z n0 h0) :
    Ow.Con l Z EL1 n0 my6 jdk_52_method_3_code 1 (Option.some Jvm.ClassFile.FieldType.int) [] ({ frames := 0, cells := 0, slots := 0, locals := 0 } : Room) #[(.int 2)] [] h0 (fun v h S' => (v = some (.int 4) ∧ h = h0 ∧ S' = [])) := by
 refine Ow.Con.enter (Ls := #[.val (.int 2)]) (plainFor_of_name pn3) O0 (hEW hw) (hSA hw) ?_
 intro p e s m below meth c B
 have z0 := Ow.old_le O0
 refine Ow.iloadN (pc' := 1) B e9_0 ?_
 refine Ow.ifT (pc' := 12) B e9_1 (by decide) ?_
 refine Ow.iloadN (pc' := 13) B e9_12 ?_
 refine Ow.ldcInt (pc' := 15) B e9_13 (w123 hw) ?_
 refine Ow.icmpT (pc' := 55) B e9_15 (by decide) ?_
 refine Ow.iloadN (pc' := 56) B e9_55 ?_
 refine Ow.iconst (pc' := 57) (x := 1) B e9_56 ?_
 refine Ow.ishl (pc' := 58) (z := 4) B e9_57 ?_
 exact Ow.retI (S' := []) (t := .int) B e9_58 (⟨rfl, rfl, rfl⟩)
set_option maxRecDepth 65536 in
set_option maxHeartbeats 40000000 in
theorem con_newBytesFor_48 (hw : Hw a0 Z) (G : Ow.Glo Z cz sf) (GS : GlS Z) {h0 : Heap} (O0 : Old Z n0 h0) :
    Ow.Con l Z EL1 n0 my7 jdk_52_method_2_code 1 (Option.some (Jvm.ClassFile.FieldType.array Jvm.ClassFile.FieldType.byte)) [] ({ frames := 1, cells := 1, slots := 4, locals := 12 } : Room) #[(.int 2)] [] h0 (fun v h S' => (∃ r0 : Nat, ∃ k0 : ClassId, v = some (.ref r0) ∧ Keep h0 h [] ∧ h0.size ≤ r0 ∧ Arv Z h r0 k0 .byte (4 : Int32) [(.int 0), (.int 0), (.int 0), (.int 0)] (.int 0) ∧ S' = [r0])) := by
 refine Ow.Con.enter (Ls := #[.val (.int 2)]) (plainFor_of_name pn3) O0 (hEW hw) (hSA hw) ?_
 intro p e s m below meth c B
 have z0 := Ow.old_le O0
 refine Ow.iloadN (pc' := 1) B e8_0 ?_
 refine Ow.Go.old (fun o1 => ?_)
 refine Ow.callStatic (pc' := 4) (W := 0) (k' := 0) (n' := 0) (argsL := [(.int 2)]) (rest := []) B e8_1 (w120 hw) (w121 hw) (w40 hw) (w122 hw) (con_newBytesLength_47 hw G GS o1) pd6 ?_
 intro vq2 h3 S4 q2 zh3
 obtain ⟨rfl, rfl, rfl⟩ := q2
 refine Ow.Go.nr (S' := []) (st' := [(.int 4)]) ?_
 refine Ow.newArr (pc' := 6) (k' := 1) (n' := 4) (cap := 4) B e8_4 (w21 hw) (by decide) (by decide) ?_
 intro h6 a5 ka5 ga5 ba5 Kh6 V0a5
 have zh6 := Kh6.1
 have la5 : (a5 : Nat) < h6.size := V0a5.lt
 have Va5 : Arv Z h6 a5 ka5 .byte (4 : Int32) [(.int 0), (.int 0), (.int 0), (.int 0)] (.int 0) := V0a5.pad (pad_rep [] (.int 0) 4)
 exact Ow.retA (S' := [a5]) (t := (.array .byte)) B e8_6 (⟨a5, ka5, rfl, ((Keep.refl _ []).trans Kh6 (fun _ q => nomatch q)), (by omega), Va5, rfl⟩)
set_option maxRecDepth 65536 in
set_option maxHeartbeats 40000000 in
theorem con_putChar_49 (hw : Hw a0 Z) (G : Ow.Glo Z cz sf) (GS : GlS Z) {pa0 : Nat} {px0 : Int32} {pk0 : ClassId} {h0 : Heap} (O0 : Old Z n0 h0) (hf0 : Arv Z h0 pa0 pk0 .byte (4 : Int32) [(.int 0), (.int 0), (.int 0), (.int 0)] (.int 0)) (hn0 : n0 ≤ pa0) (hc_px0 : nar .char px0 = px0) :
    Ow.Con l Z EL1 n0 my8 jdk_52_method_4_code 3 (Option.none : Option Jvm.ClassFile.FieldType) [] ({ frames := 0, cells := 0, slots := 0, locals := 0 } : Room) #[(.ref pa0), (.int 0), (.int px0)] [pa0] h0 (fun v h S' => (v = none ∧ Keep h0 h [pa0] ∧ Arv Z h pa0 pk0 .byte (4 : Int32) [(.int px0.toInt8.toInt32), (.int (px0 >>> ((8 : Int32) &&& 31)).toInt8.toInt32), (.int 0), (.int 0)] (.int 0) ∧ S' = [])) := by
 refine Ow.Con.enter (Ls := #[.val (.ref pa0), .val (.int 0), .val (.int px0)]) (plainFor_of_name pn3) O0 (hEW hw) (hSA hw) ?_
 intro p e s m below meth c B
 have z0 := Ow.old_le O0
 have lpa0 : (pa0 : Nat) < h0.size := hf0.lt
 refine Ow.getstatic (pc' := 3) B e10_0 (w127 hw) Via.refl GS.1 ?_
 refine Ow.ifT (pc' := 28) B e10_3 (by decide) ?_
 refine Ow.iloadN (pc' := 29) B e10_28 ?_
 refine Ow.iconst (pc' := 30) (x := 1) B e10_29 ?_
 refine Ow.ishl (pc' := 31) (z := 0) B e10_30 ?_
 refine Ow.istoreN (pc' := 32) (Ls' := #[.val (.ref pa0), .val (.int 0), .val (.int px0)]) B e10_31 ?_
 refine Ow.aloadN (pc' := 33) B e10_32 ?_
 refine Ow.iloadN (pc' := 34) B e10_33 ?_
 refine Ow.iinc (pc' := 37) (y := 1) (Ls' := #[.val (.ref pa0), .val (.int 1), .val (.int px0)]) B e10_34 ?_
 refine Ow.iloadN (pc' := 38) B e10_37 ?_
 refine Ow.getstatic (pc' := 41) B e10_38 (w128 hw) Via.refl GS.2.1 ?_
 refine Ow.ishr (pc' := 42) (z := px0) (hz := (Ow.shr0 _)) B e10_41 ?_
 refine Ow.i2b (pc' := 43) (z := px0.toInt8.toInt32) B e10_42 ?_
 refine Ow.bastore (pc' := 44) (i := 0) B e10_43 hf0 ⟨by decide, by decide⟩ (by simp) ?_
 intro h1 Kh1 V0h1
 have zh1 := Kh1.1
 have V2 : Arv Z h1 pa0 pk0 .byte (4 : Int32) [(.int px0.toInt8.toInt32), (.int 0), (.int 0), (.int 0)] (.int 0) := (by have e0 := V0h1; rw [show nar .byte px0.toInt8.toInt32 = px0.toInt8.toInt32 from Ow.nar_b _] at e0; exact e0)
 refine Ow.aloadN (pc' := 45) B e10_44 ?_
 refine Ow.iloadN (pc' := 46) B e10_45 ?_
 refine Ow.iloadN (pc' := 47) B e10_46 ?_
 refine Ow.getstatic (pc' := 50) B e10_47 (w129 hw) Via.refl GS.2.2 ?_
 refine Ow.ishr (pc' := 51) (z := (px0 >>> ((8 : Int32) &&& 31))) B e10_50 ?_
 refine Ow.i2b (pc' := 52) (z := (px0 >>> ((8 : Int32) &&& 31)).toInt8.toInt32) B e10_51 ?_
 refine Ow.bastore (pc' := 53) (i := 1) B e10_52 V2 ⟨by decide, by decide⟩ (by simp) ?_
 intro h3 Kh3 V0h3
 have zh3 := Kh3.1
 have V4 : Arv Z h3 pa0 pk0 .byte (4 : Int32) [(.int px0.toInt8.toInt32), (.int (px0 >>> ((8 : Int32) &&& 31)).toInt8.toInt32), (.int 0), (.int 0)] (.int 0) := (by have e0 := V0h3; rw [show nar .byte (px0 >>> ((8 : Int32) &&& 31)).toInt8.toInt32 = (px0 >>> ((8 : Int32) &&& 31)).toInt8.toInt32 from Ow.nar_b _] at e0; exact e0)
 exact Ow.retV (S' := []) B e10_53 (⟨rfl, (((Keep.refl _ [pa0]).trans Kh1 (allS (Or.inl (by simp)) all0)).trans Kh3 (allS (Or.inl (by simp)) all0)), V4, rfl⟩)
set_option maxRecDepth 65536 in
set_option maxHeartbeats 40000000 in
theorem con_putChar_50 (hw : Hw a0 Z) (G : Ow.Glo Z cz sf) (GS : GlS Z) {pa0 : Nat} {px0 : Int32} {px1 : Int32} {pk0 : ClassId} {h0 : Heap} (O0 : Old Z n0 h0) (hf0 : Arv Z h0 pa0 pk0 .byte (4 : Int32) [(.int px1.toInt8.toInt32), (.int (px1 >>> ((8 : Int32) &&& 31)).toInt8.toInt32), (.int 0), (.int 0)] (.int 0)) (hn0 : n0 ≤ pa0) (hc_px0 : nar .char px0 = px0) (hc_px1 : nar .char px1 = px1) :
    Ow.Con l Z EL1 n0 my8 jdk_52_method_4_code 3 (Option.none : Option Jvm.ClassFile.FieldType) [] ({ frames := 0, cells := 0, slots := 0, locals := 0 } : Room) #[(.ref pa0), (.int 1), (.int px0)] [pa0] h0 (fun v h S' => (v = none ∧ Keep h0 h [pa0] ∧ Arv Z h pa0 pk0 .byte (4 : Int32) [(.int px1.toInt8.toInt32), (.int (px1 >>> ((8 : Int32) &&& 31)).toInt8.toInt32), (.int px0.toInt8.toInt32), (.int (px0 >>> ((8 : Int32) &&& 31)).toInt8.toInt32)] (.int 0) ∧ S' = [])) := by
 refine Ow.Con.enter (Ls := #[.val (.ref pa0), .val (.int 1), .val (.int px0)]) (plainFor_of_name pn3) O0 (hEW hw) (hSA hw) ?_
 intro p e s m below meth c B
 have z0 := Ow.old_le O0
 have lpa0 : (pa0 : Nat) < h0.size := hf0.lt
 refine Ow.getstatic (pc' := 3) B e10_0 (w127 hw) Via.refl GS.1 ?_
 refine Ow.ifT (pc' := 28) B e10_3 (by decide) ?_
 refine Ow.iloadN (pc' := 29) B e10_28 ?_
 refine Ow.iconst (pc' := 30) (x := 1) B e10_29 ?_
 refine Ow.ishl (pc' := 31) (z := 2) B e10_30 ?_
 refine Ow.istoreN (pc' := 32) (Ls' := #[.val (.ref pa0), .val (.int 2), .val (.int px0)]) B e10_31 ?_
 refine Ow.aloadN (pc' := 33) B e10_32 ?_
 refine Ow.iloadN (pc' := 34) B e10_33 ?_
 refine Ow.iinc (pc' := 37) (y := 3) (Ls' := #[.val (.ref pa0), .val (.int 3), .val (.int px0)]) B e10_34 ?_
 refine Ow.iloadN (pc' := 38) B e10_37 ?_
 refine Ow.getstatic (pc' := 41) B e10_38 (w128 hw) Via.refl GS.2.1 ?_
 refine Ow.ishr (pc' := 42) (z := px0) (hz := (Ow.shr0 _)) B e10_41 ?_
 refine Ow.i2b (pc' := 43) (z := px0.toInt8.toInt32) B e10_42 ?_
 refine Ow.bastore (pc' := 44) (i := 2) B e10_43 hf0 ⟨by decide, by decide⟩ (by simp) ?_
 intro h1 Kh1 V0h1
 have zh1 := Kh1.1
 have V2 : Arv Z h1 pa0 pk0 .byte (4 : Int32) [(.int px1.toInt8.toInt32), (.int (px1 >>> ((8 : Int32) &&& 31)).toInt8.toInt32), (.int px0.toInt8.toInt32), (.int 0)] (.int 0) := (by have e0 := V0h1; rw [show nar .byte px0.toInt8.toInt32 = px0.toInt8.toInt32 from Ow.nar_b _] at e0; exact e0)
 refine Ow.aloadN (pc' := 45) B e10_44 ?_
 refine Ow.iloadN (pc' := 46) B e10_45 ?_
 refine Ow.iloadN (pc' := 47) B e10_46 ?_
 refine Ow.getstatic (pc' := 50) B e10_47 (w129 hw) Via.refl GS.2.2 ?_
 refine Ow.ishr (pc' := 51) (z := (px0 >>> ((8 : Int32) &&& 31))) B e10_50 ?_
 refine Ow.i2b (pc' := 52) (z := (px0 >>> ((8 : Int32) &&& 31)).toInt8.toInt32) B e10_51 ?_
 refine Ow.bastore (pc' := 53) (i := 3) B e10_52 V2 ⟨by decide, by decide⟩ (by simp) ?_
 intro h3 Kh3 V0h3
 have zh3 := Kh3.1
 have V4 : Arv Z h3 pa0 pk0 .byte (4 : Int32) [(.int px1.toInt8.toInt32), (.int (px1 >>> ((8 : Int32) &&& 31)).toInt8.toInt32), (.int px0.toInt8.toInt32), (.int (px0 >>> ((8 : Int32) &&& 31)).toInt8.toInt32)] (.int 0) := (by have e0 := V0h3; rw [show nar .byte (px0 >>> ((8 : Int32) &&& 31)).toInt8.toInt32 = (px0 >>> ((8 : Int32) &&& 31)).toInt8.toInt32 from Ow.nar_b _] at e0; exact e0)
 exact Ow.retV (S' := []) B e10_53 (⟨rfl, (((Keep.refl _ [pa0]).trans Kh1 (allS (Or.inl (by simp)) all0)).trans Kh3 (allS (Or.inl (by simp)) all0)), V4, rfl⟩)
set_option maxRecDepth 65536 in
set_option maxHeartbeats 40000000 in
theorem con_toBytes_51 (hw : Hw a0 Z) (G : Ow.Glo Z cz sf) (GS : GlS Z) {pa0 : Nat} {px0 : Int32} {px1 : Int32} {pk0 : ClassId} {h0 : Heap} (O0 : Old Z n0 h0) (hf0 : Arv Z h0 pa0 pk0 .char (2 : Int32) [(.int px0), (.int px1)] (.int 0)) (hn0 : n0 ≤ pa0) (hc_px0 : nar .char px0 = px0) (hc_px1 : nar .char px1 = px1) :
    Ow.Con l Z EL1 n0 my9 jdk_52_method_14_code 5 (Option.some (Jvm.ClassFile.FieldType.array Jvm.ClassFile.FieldType.byte)) [] ({ frames := 2, cells := 1, slots := 4, locals := 24 } : Room) #[(.ref pa0), (.int 0), (.int 2)] [] h0 (fun v h S' => (∃ r0 : Nat, ∃ k0 : ClassId, v = some (.ref r0) ∧ Keep h0 h [] ∧ h0.size ≤ r0 ∧ Arv Z h r0 k0 .byte (4 : Int32) [(.int px0.toInt8.toInt32), (.int (px0 >>> ((8 : Int32) &&& 31)).toInt8.toInt32), (.int px1.toInt8.toInt32), (.int (px1 >>> ((8 : Int32) &&& 31)).toInt8.toInt32)] (.int 0) ∧ S' = [r0])) := by
 refine Ow.Con.enter (Ls := #[.val (.ref pa0), .val (.int 0), .val (.int 2), .unset, .unset]) (plainFor_of_name pn3) O0 (hEW hw) (hSA hw) ?_
 intro p e s m below meth c B
 have z0 := Ow.old_le O0
 have lpa0 : (pa0 : Nat) < h0.size := hf0.lt
 refine Ow.iloadN (pc' := 1) B e7_0 ?_
 refine Ow.Go.old (fun o1 => ?_)
 refine Ow.callStatic (pc' := 4) (W := 0) (k' := 1) (n' := 4) (argsL := [(.int 2)]) (rest := []) B e7_1 (w117 hw) (w118 hw) (w40 hw) (w119 hw) (con_newBytesFor_48 hw G GS o1) pd7 ?_
 intro vq2 h3 S4 q2 zh3
 obtain ⟨r5, k6, rfl, Kh3, br5, f7, rfl⟩ := q2
 have lr5 : (r5 : Nat) < h3.size := f7.lt
 refine Ow.Go.norm (S' := [r5]) (st' := [(.ref r5)]) (fun _ q => q) rfl ?_
 refine Ow.astoreN (pc' := 5) (Ls' := #[.val (.ref pa0), .val (.int 0), .val (.int 2), .val (.ref r5), .unset]) B e7_4 ?_
 refine Ow.iconst (pc' := 6) (x := 0) B e7_5 ?_
 refine Ow.istore (pc' := 8) (Ls' := #[.val (.ref pa0), .val (.int 0), .val (.int 2), .val (.ref r5), .val (.int 0)]) B e7_6 ?_
 refine Ow.iload (pc' := 10) B e7_8 ?_
 refine Ow.iloadN (pc' := 11) B e7_10 ?_
 refine Ow.icmpF (pc' := 14) B e7_11 (by decide) ?_
 refine Ow.aloadN (pc' := 15) B e7_14 ?_
 refine Ow.iload (pc' := 17) B e7_15 ?_
 refine Ow.aloadN (pc' := 18) B e7_17 ?_
 refine Ow.iloadN (pc' := 19) B e7_18 ?_
 have f8 := hf0.keep Kh3 Ow.nin0
 refine Ow.caload (pc' := 20) B e7_19 f8 ⟨by decide, by decide⟩ rfl ?_
 refine Ow.Go.old (fun o9 => ?_)
 refine Ow.callStatic (pc' := 23) (W := 0) (k' := 1) (n' := 4) (argsL := [(.ref r5), (.int 0), (.int px0)]) (rest := []) B e7_20 (w124 hw) (w125 hw) (w40 hw) (w126 hw) (con_putChar_49 hw G GS (pa0 := r5) (px0 := px0) (pk0 := k6) o9 f7 (by omega) hc_px0) pd8 ?_
 intro vq10 h11 S12 q10 zh11
 obtain ⟨rfl, Kh11, f13, rfl⟩ := q10
 refine Ow.Go.nr (S' := [r5]) (st' := []) ?_
 refine Ow.iinc (pc' := 26) (y := 1) (Ls' := #[.val (.ref pa0), .val (.int 1), .val (.int 2), .val (.ref r5), .val (.int 0)]) B e7_23 ?_
 refine Ow.iinc (pc' := 29) (y := 1) (Ls' := #[.val (.ref pa0), .val (.int 1), .val (.int 2), .val (.ref r5), .val (.int 1)]) B e7_26 ?_
 refine Ow.goto (pc' := 8) B e7_29 ?_
 refine Ow.iload (pc' := 10) B e7_8 ?_
 refine Ow.iloadN (pc' := 11) B e7_10 ?_
 refine Ow.icmpF (pc' := 14) B e7_11 (by decide) ?_
 refine Ow.aloadN (pc' := 15) B e7_14 ?_
 refine Ow.iload (pc' := 17) B e7_15 ?_
 refine Ow.aloadN (pc' := 18) B e7_17 ?_
 refine Ow.iloadN (pc' := 19) B e7_18 ?_
 have f14 := f8.keep Kh11 (Ow.ninS (by omega) Ow.nin0)
 refine Ow.caload (pc' := 20) B e7_19 f14 ⟨by decide, by decide⟩ rfl ?_
 refine Ow.Go.old (fun o15 => ?_)
 refine Ow.callStatic (pc' := 23) (W := 0) (k' := 1) (n' := 4) (argsL := [(.ref r5), (.int 1), (.int px1)]) (rest := []) B e7_20 (w124 hw) (w125 hw) (w40 hw) (w126 hw) (con_putChar_50 hw G GS (pa0 := r5) (px0 := px1) (px1 := px0) (pk0 := k6) o15 f13 (by omega) hc_px1 hc_px0) pd8 ?_
 intro vq16 h17 S18 q16 zh17
 obtain ⟨rfl, Kh17, f19, rfl⟩ := q16
 refine Ow.Go.nr (S' := [r5]) (st' := []) ?_
 refine Ow.iinc (pc' := 26) (y := 2) (Ls' := #[.val (.ref pa0), .val (.int 2), .val (.int 2), .val (.ref r5), .val (.int 1)]) B e7_23 ?_
 refine Ow.iinc (pc' := 29) (y := 2) (Ls' := #[.val (.ref pa0), .val (.int 2), .val (.int 2), .val (.ref r5), .val (.int 2)]) B e7_26 ?_
 refine Ow.goto (pc' := 8) B e7_29 ?_
 refine Ow.iload (pc' := 10) B e7_8 ?_
 refine Ow.iloadN (pc' := 11) B e7_10 ?_
 refine Ow.icmpT (pc' := 32) B e7_11 (by decide) ?_
 refine Ow.aloadN (pc' := 33) B e7_32 ?_
 exact Ow.retA (S' := [r5]) (t := (.array .byte)) B e7_33 (⟨r5, k6, rfl, ((((Keep.refl _ []).trans Kh3 (fun _ q => nomatch q)).trans Kh11 (allS (Or.inr (by omega)) all0)).trans Kh17 (allS (Or.inr (by omega)) all0)), (by omega), f19, rfl⟩)
set_option maxRecDepth 65536 in
set_option maxHeartbeats 40000000 in
theorem con_getChar_52 (hw : Hw a0 Z) (G : Ow.Glo Z cz sf) (GS : GlS Z) {pa0 : Nat} {px0 : Int32} {px1 : Int32} {pk0 : ClassId} {h0 : Heap} (O0 : Old Z n0 h0) (hf0 : Arv Z h0 pa0 pk0 .byte (4 : Int32) [(.int px0.toInt8.toInt32), (.int (px0 >>> ((8 : Int32) &&& 31)).toInt8.toInt32), (.int px1.toInt8.toInt32), (.int (px1 >>> ((8 : Int32) &&& 31)).toInt8.toInt32)] (.int 0)) (hn0 : n0 ≤ pa0) (hk0 : ¬ (px0 < (0 : Int32))) (hk1 : ¬ ((65535 : Int32) < px0)) (hc_px0 : nar .char px0 = px0) (hc_px1 : nar .char px1 = px1) :
    Ow.Con l Z EL1 n0 my10 jdk_52_method_5_code 2 (Option.some Jvm.ClassFile.FieldType.char) [] ({ frames := 0, cells := 0, slots := 0, locals := 0 } : Room) #[(.ref pa0), (.int 0)] [pa0] h0 (fun v h S' => (v = some (.int px0) ∧ h = h0 ∧ S' = [])) := by
 refine Ow.Con.enter (Ls := #[.val (.ref pa0), .val (.int 0)]) (plainFor_of_name pn3) O0 (hEW hw) (hSA hw) ?_
 intro p e s m below meth c B
 have z0 := Ow.old_le O0
 have lpa0 : (pa0 : Nat) < h0.size := hf0.lt
 refine Ow.getstatic (pc' := 3) B e11_0 (w127 hw) Via.refl GS.1 ?_
 refine Ow.ifT (pc' := 28) B e11_3 (by decide) ?_
 refine Ow.iloadN (pc' := 29) B e11_28 ?_
 refine Ow.iconst (pc' := 30) (x := 1) B e11_29 ?_
 refine Ow.ishl (pc' := 31) (z := 0) B e11_30 ?_
 refine Ow.istoreN (pc' := 32) (Ls' := #[.val (.ref pa0), .val (.int 0)]) B e11_31 ?_
 refine Ow.aloadN (pc' := 33) B e11_32 ?_
 refine Ow.iloadN (pc' := 34) B e11_33 ?_
 refine Ow.iinc (pc' := 37) (y := 1) (Ls' := #[.val (.ref pa0), .val (.int 1)]) B e11_34 ?_
 refine Ow.baload (pc' := 38) B e11_37 hf0 ⟨by decide, by decide⟩ rfl ?_
 refine Ow.sipush (pc' := 41) (x := 255) B e11_38 ?_
 refine Ow.iand (pc' := 42) (z := (px0.toInt8.toInt32 &&& (255 : Int32))) B e11_41 ?_
 refine Ow.getstatic (pc' := 45) B e11_42 (w128 hw) Via.refl GS.2.1 ?_
 refine Ow.ishl (pc' := 46) (z := ((px0.toInt8.toInt32 &&& (255 : Int32)) <<< ((0 : Int32) &&& 31))) B e11_45 ?_
 refine Ow.aloadN (pc' := 47) B e11_46 ?_
 refine Ow.iloadN (pc' := 48) B e11_47 ?_
 refine Ow.baload (pc' := 49) B e11_48 hf0 ⟨by decide, by decide⟩ rfl ?_
 refine Ow.sipush (pc' := 52) (x := 255) B e11_49 ?_
 refine Ow.iand (pc' := 53) (z := ((px0 >>> ((8 : Int32) &&& 31)).toInt8.toInt32 &&& (255 : Int32))) B e11_52 ?_
 refine Ow.getstatic (pc' := 56) B e11_53 (w129 hw) Via.refl GS.2.2 ?_
 refine Ow.ishl (pc' := 57) (z := (((px0 >>> ((8 : Int32) &&& 31)).toInt8.toInt32 &&& (255 : Int32)) <<< ((8 : Int32) &&& 31))) B e11_56 ?_
 refine Ow.ior (pc' := 58) (z := px0) (hz := (Ow.u16 (hk0) (hk1))) B e11_57 ?_
 refine Ow.i2c (pc' := 59) (z := px0) (hz := hc_px0) B e11_58 ?_
 exact Ow.retI (S' := []) (t := .char) (hnn := (Ow.cnarrow hc_px0)) B e11_59 (⟨rfl, rfl, rfl⟩)
set_option maxRecDepth 65536 in
set_option maxHeartbeats 40000000 in
theorem con_getChar_53 (hw : Hw a0 Z) (G : Ow.Glo Z cz sf) (GS : GlS Z) {pa0 : Nat} {px0 : Int32} {px1 : Int32} {pk0 : ClassId} {h0 : Heap} (O0 : Old Z n0 h0) (hf0 : Arv Z h0 pa0 pk0 .byte (4 : Int32) [(.int px0.toInt8.toInt32), (.int (px0 >>> ((8 : Int32) &&& 31)).toInt8.toInt32), (.int px1.toInt8.toInt32), (.int (px1 >>> ((8 : Int32) &&& 31)).toInt8.toInt32)] (.int 0)) (hn0 : n0 ≤ pa0) (hk0 : ¬ (px1 < (0 : Int32))) (hk1 : ¬ ((65535 : Int32) < px1)) (hc_px0 : nar .char px0 = px0) (hc_px1 : nar .char px1 = px1) :
    Ow.Con l Z EL1 n0 my10 jdk_52_method_5_code 2 (Option.some Jvm.ClassFile.FieldType.char) [] ({ frames := 0, cells := 0, slots := 0, locals := 0 } : Room) #[(.ref pa0), (.int 1)] [pa0] h0 (fun v h S' => (v = some (.int px1) ∧ h = h0 ∧ S' = [])) := by
 refine Ow.Con.enter (Ls := #[.val (.ref pa0), .val (.int 1)]) (plainFor_of_name pn3) O0 (hEW hw) (hSA hw) ?_
 intro p e s m below meth c B
 have z0 := Ow.old_le O0
 have lpa0 : (pa0 : Nat) < h0.size := hf0.lt
 refine Ow.getstatic (pc' := 3) B e11_0 (w127 hw) Via.refl GS.1 ?_
 refine Ow.ifT (pc' := 28) B e11_3 (by decide) ?_
 refine Ow.iloadN (pc' := 29) B e11_28 ?_
 refine Ow.iconst (pc' := 30) (x := 1) B e11_29 ?_
 refine Ow.ishl (pc' := 31) (z := 2) B e11_30 ?_
 refine Ow.istoreN (pc' := 32) (Ls' := #[.val (.ref pa0), .val (.int 2)]) B e11_31 ?_
 refine Ow.aloadN (pc' := 33) B e11_32 ?_
 refine Ow.iloadN (pc' := 34) B e11_33 ?_
 refine Ow.iinc (pc' := 37) (y := 3) (Ls' := #[.val (.ref pa0), .val (.int 3)]) B e11_34 ?_
 refine Ow.baload (pc' := 38) B e11_37 hf0 ⟨by decide, by decide⟩ rfl ?_
 refine Ow.sipush (pc' := 41) (x := 255) B e11_38 ?_
 refine Ow.iand (pc' := 42) (z := (px1.toInt8.toInt32 &&& (255 : Int32))) B e11_41 ?_
 refine Ow.getstatic (pc' := 45) B e11_42 (w128 hw) Via.refl GS.2.1 ?_
 refine Ow.ishl (pc' := 46) (z := ((px1.toInt8.toInt32 &&& (255 : Int32)) <<< ((0 : Int32) &&& 31))) B e11_45 ?_
 refine Ow.aloadN (pc' := 47) B e11_46 ?_
 refine Ow.iloadN (pc' := 48) B e11_47 ?_
 refine Ow.baload (pc' := 49) B e11_48 hf0 ⟨by decide, by decide⟩ rfl ?_
 refine Ow.sipush (pc' := 52) (x := 255) B e11_49 ?_
 refine Ow.iand (pc' := 53) (z := ((px1 >>> ((8 : Int32) &&& 31)).toInt8.toInt32 &&& (255 : Int32))) B e11_52 ?_
 refine Ow.getstatic (pc' := 56) B e11_53 (w129 hw) Via.refl GS.2.2 ?_
 refine Ow.ishl (pc' := 57) (z := (((px1 >>> ((8 : Int32) &&& 31)).toInt8.toInt32 &&& (255 : Int32)) <<< ((8 : Int32) &&& 31))) B e11_56 ?_
 refine Ow.ior (pc' := 58) (z := px1) (hz := (Ow.u16 (hk0) (hk1))) B e11_57 ?_
 refine Ow.i2c (pc' := 59) (z := px1) (hz := hc_px1) B e11_58 ?_
 exact Ow.retI (S' := []) (t := .char) (hnn := (Ow.cnarrow hc_px1)) B e11_59 (⟨rfl, rfl, rfl⟩)
set_option maxRecDepth 65536 in
set_option maxHeartbeats 40000000 in
theorem con_compress_54 (hw : Hw a0 Z) (G : Ow.Glo Z cz sf) (GS : GlS Z) {pa0 : Nat} {px0 : Int32} {px1 : Int32} {pk0 : ClassId} {h0 : Heap} (O0 : Old Z n0 h0) (hf0 : Arv Z h0 pa0 pk0 .char (2 : Int32) [(.int px0), (.int px1)] (.int 0)) (hn0 : n0 ≤ pa0) (hk0 : ¬ (px0 < (0 : Int32))) (hk1 : ¬ ((65535 : Int32) < px0)) (hk2 : ¬ (px1 < (0 : Int32))) (hk3 : ¬ ((65535 : Int32) < px1)) (hc_px0 : nar .char px0 = px0) (hc_px1 : nar .char px1 = px1) :
    Ow.Con l Z EL1 n0 my11 jdk_52_method_16_code 6 (Option.some (Jvm.ClassFile.FieldType.array Jvm.ClassFile.FieldType.byte)) [] ({ frames := 3, cells := 2, slots := 6, locals := 40 } : Room) #[(.ref pa0), (.int 0), (.int 2)] [] h0 (fun v h S' => (∃ r0 : Nat, ∃ k0 : ClassId, v = some (.ref r0) ∧ Keep h0 h [] ∧ (255 : Int32) < px0 ∧ h0.size ≤ r0 ∧ Arv Z h r0 k0 .byte (4 : Int32) [(.int px0.toInt8.toInt32), (.int (px0 >>> ((8 : Int32) &&& 31)).toInt8.toInt32), (.int px1.toInt8.toInt32), (.int (px1 >>> ((8 : Int32) &&& 31)).toInt8.toInt32)] (.int 0) ∧ S' = [r0]) ∨ (∃ r0 : Nat, ∃ k0 : ClassId, v = some (.ref r0) ∧ Keep h0 h [] ∧ ¬ ((255 : Int32) < px0) ∧ (255 : Int32) < px1 ∧ h0.size ≤ r0 ∧ Arv Z h r0 k0 .byte (4 : Int32) [(.int px0.toInt8.toInt32), (.int (px0 >>> ((8 : Int32) &&& 31)).toInt8.toInt32), (.int px1.toInt8.toInt32), (.int (px1 >>> ((8 : Int32) &&& 31)).toInt8.toInt32)] (.int 0) ∧ S' = [r0]) ∨ (∃ r0 : Nat, ∃ k0 : ClassId, v = some (.ref r0) ∧ Keep h0 h [] ∧ ¬ ((255 : Int32) < px0) ∧ ¬ ((255 : Int32) < px1) ∧ h0.size ≤ r0 ∧ Arv Z h r0 k0 .byte (2 : Int32) [(.int px0.toInt8.toInt32), (.int px1.toInt8.toInt32)] (.int 0) ∧ S' = [r0])) := by
 refine Ow.Con.enter (Ls := #[.val (.ref pa0), .val (.int 0), .val (.int 2), .unset, .unset, .unset]) (plainFor_of_name pn3) O0 (hEW hw) (hSA hw) ?_
 intro p e s m below meth c B
 have z0 := Ow.old_le O0
 have lpa0 : (pa0 : Nat) < h0.size := hf0.lt
 refine Ow.iloadN (pc' := 1) B e5_0 ?_
 refine Ow.newArr (pc' := 3) (k' := 1) (n' := 2) (cap := 2) B e5_1 (w21 hw) (by decide) (by decide) ?_
 intro h2 a1 ka1 ga1 ba1 Kh2 V0a1
 have zh2 := Kh2.1
 have la1 : (a1 : Nat) < h2.size := V0a1.lt
 have Va1 : Arv Z h2 a1 ka1 .byte (2 : Int32) [(.int 0), (.int 0)] (.int 0) := V0a1.pad (pad_rep [] (.int 0) 2)
 refine Ow.astoreN (pc' := 4) (Ls' := #[.val (.ref pa0), .val (.int 0), .val (.int 2), .val (.ref a1), .unset, .unset]) B e5_3 ?_
 refine Ow.aloadN (pc' := 5) B e5_4 ?_
 refine Ow.iloadN (pc' := 6) B e5_5 ?_
 refine Ow.aloadN (pc' := 7) B e5_6 ?_
 refine Ow.iconst (pc' := 8) (x := 0) B e5_7 ?_
 refine Ow.iloadN (pc' := 9) B e5_8 ?_
 refine Ow.Go.old (fun o3 => ?_)
 have f4 := hf0.keep Kh2 Ow.nin0
 refine Ow.callStatic (pc' := 12) (W := 0) (k' := 1) (n' := 2) (argsL := [(.ref pa0), (.int 0), (.ref a1), (.int 0), (.int 2)]) (rest := []) B e5_9 (w42 hw) (w43 hw) (w40 hw) (w44 hw) (con_compress_46 hw G GS (pa0 := pa0) (pa1 := a1) (px0 := px0) (px1 := px1) (pk0 := pk0) (pk1 := ka1) o3 f4 Va1 (by omega) (by omega) (by omega) hc_px0 hc_px1) pd5 ?_
 intro vq5 h6 S7 q5 zh6
 rcases q5 with q5 | q5 | q5
 ·obtain ⟨rfl, rfl, c8, rfl⟩ := q5
  refine Ow.Go.nr (S' := [a1]) (st' := [(.int 0)]) ?_
  refine Ow.istore (pc' := 14) (Ls' := #[.val (.ref pa0), .val (.int 0), .val (.int 2), .val (.ref a1), .val (.int 0), .unset]) B e5_12 ?_
  refine Ow.iload (pc' := 16) B e5_14 ?_
  refine Ow.iloadN (pc' := 17) B e5_16 ?_
  refine Ow.icmpF (pc' := 20) B e5_17 (by decide) ?_
  refine Ow.aloadN (pc' := 21) B e5_20 ?_
  refine Ow.iloadN (pc' := 22) B e5_21 ?_
  refine Ow.iloadN (pc' := 23) B e5_22 ?_
  refine Ow.Go.old (fun o9 => ?_)
  refine Ow.callStatic (pc' := 26) (W := 0) (k' := 2) (n' := 6) (argsL := [(.ref pa0), (.int 0), (.int 2)]) (rest := []) B e5_23 (w114 hw) (w115 hw) (w40 hw) (w116 hw) (con_toBytes_51 hw G GS (pa0 := pa0) (px0 := px0) (px1 := px1) (pk0 := pk0) o9 f4 (by omega) hc_px0 hc_px1) pd9 ?_
  intro vq10 h11 S12 q10 zh11
  obtain ⟨r13, k14, rfl, Kh11, br13, f15, rfl⟩ := q10
  have lr13 : (r13 : Nat) < h11.size := f15.lt
  refine Ow.Go.norm (S' := [r13, a1]) (st' := [(.ref r13)]) (fun _ q => q) rfl ?_
  refine Ow.astore (pc' := 28) (Ls' := #[.val (.ref pa0), .val (.int 0), .val (.int 2), .val (.ref a1), .val (.int 0), .val (.ref r13)]) B e5_26 ?_
  refine Ow.aload (pc' := 30) B e5_28 ?_
  refine Ow.iload (pc' := 32) B e5_30 ?_
  refine Ow.Go.old (fun o16 => ?_)
  refine Ow.callStatic (pc' := 35) (W := 0) (k' := 2) (n' := 6) (argsL := [(.ref r13), (.int 0)]) (rest := []) B e5_32 (w130 hw) (w131 hw) (w40 hw) (w132 hw) (con_getChar_52 hw G GS (pa0 := r13) (px0 := px0) (px1 := px1) (pk0 := k14) o16 f15 (by omega) (hk0) (hk1) hc_px0 hc_px1) pd10 ?_
  intro vq17 h18 S19 q17 zh18
  obtain ⟨rfl, rfl, rfl⟩ := q17
  refine Ow.Go.nr (S' := [r13, a1]) (st' := [(.int px0)]) ?_
  refine Ow.sipush (pc' := 38) (x := 255) B e5_35 ?_
  refine Ow.icmpT (pc' := 54) B e5_38 (tlt (c8)).2.2.1 ?_
  refine Ow.aload (pc' := 56) B e5_54 ?_
  exact Ow.retA (S' := [r13]) (t := (.array .byte)) B e5_56 (Or.inl (⟨r13, k14, rfl, (((Keep.refl _ []).trans Kh2 (fun _ q => nomatch q)).trans Kh11 (fun _ q => nomatch q)), c8, (by omega), f15, rfl⟩))
 ·obtain ⟨rfl, Kh6, c20, c21, f22, rfl⟩ := q5
  refine Ow.Go.nr (S' := [a1]) (st' := [(.int 1)]) ?_
  refine Ow.istore (pc' := 14) (Ls' := #[.val (.ref pa0), .val (.int 0), .val (.int 2), .val (.ref a1), .val (.int 1), .unset]) B e5_12 ?_
  refine Ow.iload (pc' := 16) B e5_14 ?_
  refine Ow.iloadN (pc' := 17) B e5_16 ?_
  refine Ow.icmpF (pc' := 20) B e5_17 (by decide) ?_
  refine Ow.aloadN (pc' := 21) B e5_20 ?_
  refine Ow.iloadN (pc' := 22) B e5_21 ?_
  refine Ow.iloadN (pc' := 23) B e5_22 ?_
  refine Ow.Go.old (fun o23 => ?_)
  have f24 := f4.keep Kh6 (Ow.ninS (by omega) Ow.nin0)
  refine Ow.callStatic (pc' := 26) (W := 0) (k' := 2) (n' := 6) (argsL := [(.ref pa0), (.int 0), (.int 2)]) (rest := []) B e5_23 (w114 hw) (w115 hw) (w40 hw) (w116 hw) (con_toBytes_51 hw G GS (pa0 := pa0) (px0 := px0) (px1 := px1) (pk0 := pk0) o23 f24 (by omega) hc_px0 hc_px1) pd9 ?_
  intro vq25 h26 S27 q25 zh26
  obtain ⟨r28, k29, rfl, Kh26, br28, f30, rfl⟩ := q25
  have lr28 : (r28 : Nat) < h26.size := f30.lt
  refine Ow.Go.norm (S' := [r28, a1]) (st' := [(.ref r28)]) (fun _ q => q) rfl ?_
  refine Ow.astore (pc' := 28) (Ls' := #[.val (.ref pa0), .val (.int 0), .val (.int 2), .val (.ref a1), .val (.int 1), .val (.ref r28)]) B e5_26 ?_
  refine Ow.aload (pc' := 30) B e5_28 ?_
  refine Ow.iload (pc' := 32) B e5_30 ?_
  refine Ow.Go.old (fun o31 => ?_)
  refine Ow.callStatic (pc' := 35) (W := 0) (k' := 2) (n' := 6) (argsL := [(.ref r28), (.int 1)]) (rest := []) B e5_32 (w130 hw) (w131 hw) (w40 hw) (w132 hw) (con_getChar_53 hw G GS (pa0 := r28) (px0 := px0) (px1 := px1) (pk0 := k29) o31 f30 (by omega) (hk2) (hk3) hc_px0 hc_px1) pd10 ?_
  intro vq32 h33 S34 q32 zh33
  obtain ⟨rfl, rfl, rfl⟩ := q32
  refine Ow.Go.nr (S' := [r28, a1]) (st' := [(.int px1)]) ?_
  refine Ow.sipush (pc' := 38) (x := 255) B e5_35 ?_
  refine Ow.icmpT (pc' := 54) B e5_38 (tlt (c21)).2.2.1 ?_
  refine Ow.aload (pc' := 56) B e5_54 ?_
  exact Ow.retA (S' := [r28]) (t := (.array .byte)) B e5_56 (Or.inr (Or.inl (⟨r28, k29, rfl, ((((Keep.refl _ []).trans Kh2 (fun _ q => nomatch q)).trans Kh6 (allS (Or.inr (by omega)) all0)).trans Kh26 (fun _ q => nomatch q)), c20, c21, (by omega), f30, rfl⟩)))
 ·obtain ⟨rfl, Kh6, c35, c36, f37, rfl⟩ := q5
  refine Ow.Go.nr (S' := [a1]) (st' := [(.int 2)]) ?_
  refine Ow.istore (pc' := 14) (Ls' := #[.val (.ref pa0), .val (.int 0), .val (.int 2), .val (.ref a1), .val (.int 2), .unset]) B e5_12 ?_
  refine Ow.iload (pc' := 16) B e5_14 ?_
  refine Ow.iloadN (pc' := 17) B e5_16 ?_
  refine Ow.icmpT (pc' := 57) B e5_17 (by decide) ?_
  refine Ow.aloadN (pc' := 58) B e5_57 ?_
  exact Ow.retA (S' := [a1]) (t := (.array .byte)) B e5_58 (Or.inr (Or.inr (⟨a1, ka1, rfl, (((Keep.refl _ []).trans Kh2 (fun _ q => nomatch q)).trans Kh6 (allS (Or.inr (by omega)) all0)), c35, c36, (by omega), f37, rfl⟩)))
set_option maxRecDepth 65536 in
set_option maxHeartbeats 40000000 in
theorem con_coderFromArrayLen_55 (hw : Hw a0 Z) (G : Ow.Glo Z cz sf) (GS : GlS Z) {pa0 : Nat} {px0 : Int32} {px1 : Int32} {pk0 : ClassId} {h0 : Heap} (O0 : Old Z n0 h0) (hf0 : Arv Z h0 pa0 pk0 .byte (4 : Int32) [(.int px0.toInt8.toInt32), (.int (px0 >>> ((8 : Int32) &&& 31)).toInt8.toInt32), (.int px1.toInt8.toInt32), (.int (px1 >>> ((8 : Int32) &&& 31)).toInt8.toInt32)] (.int 0)) (hn0 : n0 ≤ pa0) (hc_px0 : nar .char px0 = px0) (hc_px1 : nar .char px1 = px1) :
    Ow.Con l Z EL1 n0 my12 jdk_52_method_15_code 2 (Option.some Jvm.ClassFile.FieldType.byte) [] ({ frames := 0, cells := 0, slots := 0, locals := 0 } : Room) #[(.ref pa0), (.int 2)] [pa0] h0 (fun v h S' => (v = some (.int 1) ∧ h = h0 ∧ S' = [])) := by
 refine Ow.Con.enter (Ls := #[.val (.ref pa0), .val (.int 2)]) (plainFor_of_name pn3) O0 (hEW hw) (hSA hw) ?_
 intro p e s m below meth c B
 have z0 := Ow.old_le O0
 have lpa0 : (pa0 : Nat) < h0.size := hf0.lt
 refine Ow.iloadN (pc' := 1) B e12_0 ?_
 refine Ow.aloadN (pc' := 2) B e12_1 ?_
 refine Ow.arrlen (pc' := 3) B e12_2 hf0 ?_
 refine Ow.isub (pc' := 4) (z := (-2 : Int32)) B e12_3 ?_
 refine Ow.bipush (pc' := 6) (x := 31) B e12_4 ?_
 refine Ow.iushr (pc' := 7) (z := 1) B e12_6 ?_
 refine Ow.i2b (pc' := 8) (z := 1) B e12_7 ?_
 exact Ow.retI (S' := []) (t := .byte) B e12_8 (⟨rfl, rfl, rfl⟩)
set_option maxRecDepth 65536 in
set_option maxHeartbeats 40000000 in
theorem con_coderFromArrayLen_56 (hw : Hw a0 Z) (G : Ow.Glo Z cz sf) (GS : GlS Z) {pa0 : Nat} {px0 : Int32} {px1 : Int32} {pk0 : ClassId} {h0 : Heap} (O0 : Old Z n0 h0) (hf0 : Arv Z h0 pa0 pk0 .byte (2 : Int32) [(.int px0.toInt8.toInt32), (.int px1.toInt8.toInt32)] (.int 0)) (hn0 : n0 ≤ pa0) (hc_px0 : nar .char px0 = px0) (hc_px1 : nar .char px1 = px1) :
    Ow.Con l Z EL1 n0 my12 jdk_52_method_15_code 2 (Option.some Jvm.ClassFile.FieldType.byte) [] ({ frames := 0, cells := 0, slots := 0, locals := 0 } : Room) #[(.ref pa0), (.int 2)] [pa0] h0 (fun v h S' => (v = some (.int 0) ∧ h = h0 ∧ S' = [])) := by
 refine Ow.Con.enter (Ls := #[.val (.ref pa0), .val (.int 2)]) (plainFor_of_name pn3) O0 (hEW hw) (hSA hw) ?_
 intro p e s m below meth c B
 have z0 := Ow.old_le O0
 have lpa0 : (pa0 : Nat) < h0.size := hf0.lt
 refine Ow.iloadN (pc' := 1) B e12_0 ?_
 refine Ow.aloadN (pc' := 2) B e12_1 ?_
 refine Ow.arrlen (pc' := 3) B e12_2 hf0 ?_
 refine Ow.isub (pc' := 4) (z := 0) B e12_3 ?_
 refine Ow.bipush (pc' := 6) (x := 31) B e12_4 ?_
 refine Ow.iushr (pc' := 7) (z := 0) B e12_6 ?_
 refine Ow.i2b (pc' := 8) (z := 0) B e12_7 ?_
 exact Ow.retI (S' := []) (t := .byte) B e12_8 (⟨rfl, rfl, rfl⟩)
set_option maxRecDepth 65536 in
set_option maxHeartbeats 40000000 in
theorem con_init_57 (hw : Hw a0 Z) (G : Ow.Glo Z cz sf) (GS : GlS Z) {pa0 : Nat} {pa1 : Nat} {px0 : Int32} {px1 : Int32} {pk0 : ClassId} {h0 : Heap} (O0 : Old Z n0 h0) (hf0 : Exa Z h0 pa0 "java/lang/String") (hf1 : Fld Z h0 pa0 "java/lang/String" "coder" "B" (.int 0)) (hf2 : Fld Z h0 pa0 "java/lang/String" "value" "[B" .null) (hf3 : Arv Z h0 pa1 pk0 .char (2 : Int32) [(.int px0), (.int px1)] (.int 0)) (hn0 : n0 ≤ pa0) (hn1 : n0 ≤ pa1) (hk0 : ¬ (px0 < (0 : Int32))) (hk1 : ¬ ((65535 : Int32) < px0)) (hk2 : ¬ (px1 < (0 : Int32))) (hk3 : ¬ ((65535 : Int32) < px1)) (hc_px0 : nar .char px0 = px0) (hc_px1 : nar .char px1 = px1) :
    Ow.Con l Z EL1 n0 my0 jdk_42_method_149_code 6 (Option.none : Option Jvm.ClassFile.FieldType) [] ({ frames := 4, cells := 2, slots := 6, locals := 57 } : Room) #[(.ref pa0), (.ref pa1), (.int 0), (.int 2), .null] [pa0] h0 (fun v h S' => (∃ r0 : Nat, ∃ k0 : ClassId, v = none ∧ Keep h0 h [pa0] ∧ h0.size ≤ r0 ∧ Ow.Chs Z h pa0 r0 k0 [px0, px1] ∧ S' = [])) := by
 refine Ow.Con.enter (Ls := #[.val (.ref pa0), .val (.ref pa1), .val (.int 0), .val (.int 2), .val .null, .unset]) (plainFor_of_name pn1) O0 (hEW hw) (hSA hw) ?_
 intro p e s m below meth c B
 have z0 := Ow.old_le O0
 have lpa0 : (pa0 : Nat) < h0.size := hf0.lt
 have lpa1 : (pa1 : Nat) < h0.size := hf3.lt
 refine Ow.aloadN (pc' := 1) B e3_0 ?_
 refine Ow.objInit (pc' := 4) (W := 0) B e3_1 (w17 hw) (w18 hw) (w19 hw) ?_
 refine Ow.iloadN (pc' := 5) B e3_4 ?_
 refine Ow.ifT (pc' := 27) B e3_5 (by decide) ?_
 refine Ow.getstatic (pc' := 30) B e3_27 (w37 hw) Via.refl G.1 ?_
 refine Ow.ifF (pc' := 33) B e3_30 (feq (G.2.1)).1 ?_
 refine Ow.aloadN (pc' := 34) B e3_33 ?_
 refine Ow.iloadN (pc' := 35) B e3_34 ?_
 refine Ow.iloadN (pc' := 36) B e3_35 ?_
 refine Ow.Go.old (fun o1 => ?_)
 refine Ow.callStatic (pc' := 39) (W := 0) (k' := 2) (n' := 6) (argsL := [(.ref pa1), (.int 0), (.int 2)]) (rest := []) B e3_36 (w38 hw) (w39 hw) (w40 hw) (w41 hw) (con_compress_54 hw G GS (pa0 := pa1) (px0 := px0) (px1 := px1) (pk0 := pk0) o1 hf3 (by omega) (hk0) (hk1) (hk2) (hk3) hc_px0 hc_px1) pd9 ?_
 intro vq2 h3 S4 q2 zh3
 rcases q2 with q2 | q2 | q2
 ·obtain ⟨r5, k6, rfl, Kh3, c7, br5, f8, rfl⟩ := q2
  have lr5 : (r5 : Nat) < h3.size := f8.lt
  refine Ow.Go.norm (S' := [r5, pa0]) (st' := [(.ref r5)]) (fun _ q => q) rfl ?_
  refine Ow.astore (pc' := 41) (Ls' := #[.val (.ref pa0), .val (.ref pa1), .val (.int 0), .val (.int 2), .val .null, .val (.ref r5)]) B e3_39 ?_
  refine Ow.aloadN (pc' := 42) B e3_41 ?_
  refine Ow.aload (pc' := 44) B e3_42 ?_
  refine Ow.iloadN (pc' := 45) B e3_44 ?_
  refine Ow.Go.old (fun o9 => ?_)
  refine Ow.callStatic (pc' := 48) (W := 1) (k' := 2) (n' := 6) (argsL := [(.ref r5), (.int 2)]) (rest := [(.ref pa0)]) B e3_45 (w45 hw) (w46 hw) (w40 hw) (w47 hw) (con_coderFromArrayLen_55 hw G GS (pa0 := r5) (px0 := px0) (px1 := px1) (pk0 := k6) o9 f8 (by omega) hc_px0 hc_px1) pd11 ?_
  intro vq10 h11 S12 q10 zh11
  obtain ⟨rfl, rfl, rfl⟩ := q10
  refine Ow.Go.nr (S' := [r5, pa0]) (st' := [(.int 1), (.ref pa0)]) ?_
  have f13 := hf1.keep Kh3 Ow.nin0
  have f14 := hf0.keep Kh3
  refine Ow.putfield (pc' := 51) (ty := .byte) B e3_48 (w27 hw) Via.refl f13 f14 (Or.inr ⟨(w23 hw), rfl, rfl⟩) (w7 hw) (Or.inl (by simp)) ?_
  intro h15 Wh15
  have f16 := hf2.keep Kh3 Ow.nin0
  have Kh15 := Keep.of_wr Wh15
  have zh15 := Kh15.1
  have f17 : Fld Z h15 pa0 "java/lang/String" "coder" "B" (.int 1) := f13.same Wh15
  have f18 : Fld Z h15 pa0 "java/lang/String" "value" "[B" .null := f16.other Wh15 (Or.inr (slot_ne (a0 := a0) (C := "java/lang/String") (t := (.array .byte)) (t' := .byte) (Or.inr (w22 hw)) (Or.inr (w23 hw)) (by decide) (by decide) (by decide)))
  refine Ow.aloadN (pc' := 52) B e3_51 ?_
  refine Ow.aload (pc' := 54) B e3_52 ?_
  have f19 := f14.keep Kh15
  refine Ow.putfield (pc' := 57) (ty := (.array .byte)) B e3_54 (w26 hw) Via.refl f18 f19 (Or.inr ⟨(w22 hw), rfl, rfl⟩) (w7 hw) (Or.inl (by simp)) ?_
  intro h20 Wh20
  have Kh20 := Keep.of_wr Wh20
  have zh20 := Kh20.1
  have f21 : Fld Z h20 pa0 "java/lang/String" "value" "[B" (.ref r5) := f18.same Wh20
  have f22 : Fld Z h20 pa0 "java/lang/String" "coder" "B" (.int 1) := f17.other Wh20 (Or.inr (slot_ne (a0 := a0) (C := "java/lang/String") (t := .byte) (t' := (.array .byte)) (Or.inr (w23 hw)) (Or.inr (w22 hw)) (by decide) (by decide) (by decide)))
  have f23 := f19.keep Kh20
  have f24 := f8.keep Kh15 (Ow.ninS (by omega) Ow.nin0)
  have f25 := f24.keep Kh20 (Ow.ninS (by omega) Ow.nin0)
  have s26 : Ow.Chs Z h20 pa0 r5 k6 [px0, px1] := ⟨f23, f21, (Ow.allI ⟨(hk0), (hk1)⟩ (Ow.allI ⟨(hk2), (hk3)⟩ Ow.allI0)), Or.inr ⟨f22, f25, px0, by simp, c7⟩⟩
  exact Ow.retV (S' := []) B e3_57 (⟨r5, k6, rfl, ((((Keep.refl _ [pa0]).trans Kh3 (fun _ q => nomatch q)).trans Kh15 (allS (Or.inl (by simp)) all0)).trans Kh20 (allS (Or.inl (by simp)) all0)), (by omega), s26, rfl⟩)
 ·obtain ⟨r27, k28, rfl, Kh3, c29, c30, br27, f31, rfl⟩ := q2
  have lr27 : (r27 : Nat) < h3.size := f31.lt
  refine Ow.Go.norm (S' := [r27, pa0]) (st' := [(.ref r27)]) (fun _ q => q) rfl ?_
  refine Ow.astore (pc' := 41) (Ls' := #[.val (.ref pa0), .val (.ref pa1), .val (.int 0), .val (.int 2), .val .null, .val (.ref r27)]) B e3_39 ?_
  refine Ow.aloadN (pc' := 42) B e3_41 ?_
  refine Ow.aload (pc' := 44) B e3_42 ?_
  refine Ow.iloadN (pc' := 45) B e3_44 ?_
  refine Ow.Go.old (fun o32 => ?_)
  refine Ow.callStatic (pc' := 48) (W := 1) (k' := 2) (n' := 6) (argsL := [(.ref r27), (.int 2)]) (rest := [(.ref pa0)]) B e3_45 (w45 hw) (w46 hw) (w40 hw) (w47 hw) (con_coderFromArrayLen_55 hw G GS (pa0 := r27) (px0 := px0) (px1 := px1) (pk0 := k28) o32 f31 (by omega) hc_px0 hc_px1) pd11 ?_
  intro vq33 h34 S35 q33 zh34
  obtain ⟨rfl, rfl, rfl⟩ := q33
  refine Ow.Go.nr (S' := [r27, pa0]) (st' := [(.int 1), (.ref pa0)]) ?_
  have f36 := hf1.keep Kh3 Ow.nin0
  have f37 := hf0.keep Kh3
  refine Ow.putfield (pc' := 51) (ty := .byte) B e3_48 (w27 hw) Via.refl f36 f37 (Or.inr ⟨(w23 hw), rfl, rfl⟩) (w7 hw) (Or.inl (by simp)) ?_
  intro h38 Wh38
  have f39 := hf2.keep Kh3 Ow.nin0
  have Kh38 := Keep.of_wr Wh38
  have zh38 := Kh38.1
  have f40 : Fld Z h38 pa0 "java/lang/String" "coder" "B" (.int 1) := f36.same Wh38
  have f41 : Fld Z h38 pa0 "java/lang/String" "value" "[B" .null := f39.other Wh38 (Or.inr (slot_ne (a0 := a0) (C := "java/lang/String") (t := (.array .byte)) (t' := .byte) (Or.inr (w22 hw)) (Or.inr (w23 hw)) (by decide) (by decide) (by decide)))
  refine Ow.aloadN (pc' := 52) B e3_51 ?_
  refine Ow.aload (pc' := 54) B e3_52 ?_
  have f42 := f37.keep Kh38
  refine Ow.putfield (pc' := 57) (ty := (.array .byte)) B e3_54 (w26 hw) Via.refl f41 f42 (Or.inr ⟨(w22 hw), rfl, rfl⟩) (w7 hw) (Or.inl (by simp)) ?_
  intro h43 Wh43
  have Kh43 := Keep.of_wr Wh43
  have zh43 := Kh43.1
  have f44 : Fld Z h43 pa0 "java/lang/String" "value" "[B" (.ref r27) := f41.same Wh43
  have f45 : Fld Z h43 pa0 "java/lang/String" "coder" "B" (.int 1) := f40.other Wh43 (Or.inr (slot_ne (a0 := a0) (C := "java/lang/String") (t := .byte) (t' := (.array .byte)) (Or.inr (w23 hw)) (Or.inr (w22 hw)) (by decide) (by decide) (by decide)))
  have f46 := f42.keep Kh43
  have f47 := f31.keep Kh38 (Ow.ninS (by omega) Ow.nin0)
  have f48 := f47.keep Kh43 (Ow.ninS (by omega) Ow.nin0)
  have s49 : Ow.Chs Z h43 pa0 r27 k28 [px0, px1] := ⟨f46, f44, (Ow.allI ⟨(hk0), (hk1)⟩ (Ow.allI ⟨(hk2), (hk3)⟩ Ow.allI0)), Or.inr ⟨f45, f48, px1, by simp, c30⟩⟩
  exact Ow.retV (S' := []) B e3_57 (⟨r27, k28, rfl, ((((Keep.refl _ [pa0]).trans Kh3 (fun _ q => nomatch q)).trans Kh38 (allS (Or.inl (by simp)) all0)).trans Kh43 (allS (Or.inl (by simp)) all0)), (by omega), s49, rfl⟩)
 ·obtain ⟨r50, k51, rfl, Kh3, c52, c53, br50, f54, rfl⟩ := q2
  have lr50 : (r50 : Nat) < h3.size := f54.lt
  refine Ow.Go.norm (S' := [r50, pa0]) (st' := [(.ref r50)]) (fun _ q => q) rfl ?_
  refine Ow.astore (pc' := 41) (Ls' := #[.val (.ref pa0), .val (.ref pa1), .val (.int 0), .val (.int 2), .val .null, .val (.ref r50)]) B e3_39 ?_
  refine Ow.aloadN (pc' := 42) B e3_41 ?_
  refine Ow.aload (pc' := 44) B e3_42 ?_
  refine Ow.iloadN (pc' := 45) B e3_44 ?_
  refine Ow.Go.old (fun o55 => ?_)
  refine Ow.callStatic (pc' := 48) (W := 1) (k' := 2) (n' := 6) (argsL := [(.ref r50), (.int 2)]) (rest := [(.ref pa0)]) B e3_45 (w45 hw) (w46 hw) (w40 hw) (w47 hw) (con_coderFromArrayLen_56 hw G GS (pa0 := r50) (px0 := px0) (px1 := px1) (pk0 := k51) o55 f54 (by omega) hc_px0 hc_px1) pd11 ?_
  intro vq56 h57 S58 q56 zh57
  obtain ⟨rfl, rfl, rfl⟩ := q56
  refine Ow.Go.nr (S' := [r50, pa0]) (st' := [(.int 0), (.ref pa0)]) ?_
  have f59 := hf1.keep Kh3 Ow.nin0
  have f60 := hf0.keep Kh3
  refine Ow.putfield (pc' := 51) (ty := .byte) B e3_48 (w27 hw) Via.refl f59 f60 (Or.inr ⟨(w23 hw), rfl, rfl⟩) (w7 hw) (Or.inl (by simp)) ?_
  intro h61 Wh61
  have f62 := hf2.keep Kh3 Ow.nin0
  have Kh61 := Keep.of_wr Wh61
  have zh61 := Kh61.1
  have f63 : Fld Z h61 pa0 "java/lang/String" "coder" "B" (.int 0) := f59.same Wh61
  have f64 : Fld Z h61 pa0 "java/lang/String" "value" "[B" .null := f62.other Wh61 (Or.inr (slot_ne (a0 := a0) (C := "java/lang/String") (t := (.array .byte)) (t' := .byte) (Or.inr (w22 hw)) (Or.inr (w23 hw)) (by decide) (by decide) (by decide)))
  refine Ow.aloadN (pc' := 52) B e3_51 ?_
  refine Ow.aload (pc' := 54) B e3_52 ?_
  have f65 := f60.keep Kh61
  refine Ow.putfield (pc' := 57) (ty := (.array .byte)) B e3_54 (w26 hw) Via.refl f64 f65 (Or.inr ⟨(w22 hw), rfl, rfl⟩) (w7 hw) (Or.inl (by simp)) ?_
  intro h66 Wh66
  have Kh66 := Keep.of_wr Wh66
  have zh66 := Kh66.1
  have f67 : Fld Z h66 pa0 "java/lang/String" "value" "[B" (.ref r50) := f64.same Wh66
  have f68 : Fld Z h66 pa0 "java/lang/String" "coder" "B" (.int 0) := f63.other Wh66 (Or.inr (slot_ne (a0 := a0) (C := "java/lang/String") (t := .byte) (t' := (.array .byte)) (Or.inr (w23 hw)) (Or.inr (w22 hw)) (by decide) (by decide) (by decide)))
  have f69 := f65.keep Kh66
  have f70 := f54.keep Kh61 (Ow.ninS (by omega) Ow.nin0)
  have f71 := f70.keep Kh66 (Ow.ninS (by omega) Ow.nin0)
  have s72 : Ow.Chs Z h66 pa0 r50 k51 [px0, px1] := ⟨f69, f67, (Ow.allI ⟨(hk0), (hk1)⟩ (Ow.allI ⟨(hk2), (hk3)⟩ Ow.allI0)), Or.inl ⟨f68, f71, (Ow.allI (c52) (Ow.allI (c53) Ow.allI0))⟩⟩
  exact Ow.retV (S' := []) B e3_57 (⟨r50, k51, rfl, ((((Keep.refl _ [pa0]).trans Kh3 (fun _ q => nomatch q)).trans Kh61 (allS (Or.inl (by simp)) all0)).trans Kh66 (allS (Or.inl (by simp)) all0)), (by omega), s72, rfl⟩)
set_option maxRecDepth 65536 in
set_option maxHeartbeats 40000000 in
theorem con_init_58 (hw : Hw a0 Z) (G : Ow.Glo Z cz sf) (GS : GlS Z) {pa0 : Nat} {pa1 : Nat} {px0 : Int32} {px1 : Int32} {pk0 : ClassId} {h0 : Heap} (O0 : Old Z n0 h0) (hf0 : Exa Z h0 pa0 "java/lang/String") (hf1 : Fld Z h0 pa0 "java/lang/String" "coder" "B" (.int 0)) (hf2 : Fld Z h0 pa0 "java/lang/String" "value" "[B" .null) (hf3 : Arv Z h0 pa1 pk0 .char (2 : Int32) [(.int px0), (.int px1)] (.int 0)) (hn0 : n0 ≤ pa0) (hn1 : n0 ≤ pa1) (hk0 : ¬ (px0 < (0 : Int32))) (hk1 : ¬ ((65535 : Int32) < px0)) (hk2 : ¬ (px1 < (0 : Int32))) (hk3 : ¬ ((65535 : Int32) < px1)) (hc_px0 : nar .char px0 = px0) (hc_px1 : nar .char px1 = px1) :
    Ow.Con l Z EL1 n0 my1 jdk_42_method_3_code 2 (Option.none : Option Jvm.ClassFile.FieldType) [] ({ frames := 5, cells := 2, slots := 6, locals := 74 } : Room) #[(.ref pa0), (.ref pa1)] [pa0] h0 (fun v h S' => (∃ r0 : Nat, ∃ k0 : ClassId, v = none ∧ Keep h0 h [pa0] ∧ h0.size ≤ r0 ∧ Ow.Chs Z h pa0 r0 k0 [px0, px1] ∧ S' = [])) := by
 refine Ow.Con.enter (Ls := #[.val (.ref pa0), .val (.ref pa1)]) (plainFor_of_name pn1) O0 (hEW hw) (hSA hw) ?_
 intro p e s m below meth c B
 have z0 := Ow.old_le O0
 have lpa0 : (pa0 : Nat) < h0.size := hf0.lt
 have lpa1 : (pa1 : Nat) < h0.size := hf3.lt
 refine Ow.aloadN (pc' := 1) B e2_0 ?_
 refine Ow.aloadN (pc' := 2) B e2_1 ?_
 refine Ow.iconst (pc' := 3) (x := 0) B e2_2 ?_
 refine Ow.aloadN (pc' := 4) B e2_3 ?_
 refine Ow.arrlen (pc' := 5) B e2_4 hf3 ?_
 refine Ow.aconstNull (pc' := 6) B e2_5 ?_
 refine Ow.Go.old (fun o1 => ?_)
 refine Ow.callInit (pc' := 9) (W := 0) (k' := 2) (n' := 6) (argsL := [(.ref pa1), (.int 0), (.int 2), .null]) (rest := []) B e2_6 (w13 hw) (w14 hw) (w8 hw) (w16 hw) (con_init_57 hw G GS (pa0 := pa0) (pa1 := pa1) (px0 := px0) (px1 := px1) (pk0 := pk0) o1 hf0 hf1 hf2 hf3 (by omega) (by omega) (hk0) (hk1) (hk2) (hk3) hc_px0 hc_px1) pd0 ?_
 intro vq2 h3 S4 q2 zh3
 obtain ⟨r5, k6, rfl, Kh3, br5, f7, rfl⟩ := q2
 have lr5 : (r5 : Nat) < h3.size := f7.ltt
 refine Ow.Go.nr (S' := [pa0]) (st' := []) ?_
 exact Ow.retV (S' := []) B e2_9 (⟨r5, k6, rfl, ((Keep.refl _ [pa0]).trans Kh3 (allS (Or.inl (by simp)) all0)), (by omega), f7, rfl⟩)
set_option maxRecDepth 65536 in
set_option maxHeartbeats 40000000 in
theorem con_make_59 (hw : Hw a0 Z) (G : Ow.Glo Z cz sf) (GS : GlS Z) {px0 : Int32} {px1 : Int32} {px2 : Int32} {px3 : Int32} {h0 : Heap} (O0 : Old Z n0 h0) (hk0 : ¬ (px0 < (0 : Int32))) (hk1 : ¬ ((65535 : Int32) < px0)) (hk2 : ¬ (px1 < (0 : Int32))) (hk3 : ¬ ((65535 : Int32) < px1)) (hc_px0 : nar .char px0 = px0) (hc_px1 : nar .char px1 = px1) (hc_px2 : nar .char px2 = px2) (hc_px3 : nar .char px3 = px3) :
    Ow.Con l Z EL1 n0 my2 method_4_code 6 (Option.some (Jvm.ClassFile.FieldType.object "java/lang/String")) [] ({ frames := 6, cells := 4, slots := 12, locals := 88 } : Room) #[(.int 2), (.int px0), (.int px1), (.int px2), (.int px3)] [] h0 (fun v h S' => (∃ r0 : Nat, ∃ r1 : Nat, ∃ k0 : ClassId, v = some (.ref r0) ∧ Keep h0 h [] ∧ h0.size ≤ r0 ∧ h0.size ≤ r1 ∧ r1 ≠ r0 ∧ Ow.Chs Z h r0 r1 k0 [px0, px1] ∧ S' = [])) := by
 refine Ow.Con.enter (Ls := #[.val (.int 2), .val (.int px0), .val (.int px1), .val (.int px2), .val (.int px3), .unset]) (plainFor_of_name pn0) O0 (hEW hw) (hSA hw) ?_
 intro p e s m below meth c B
 have z0 := Ow.old_le O0
 refine Ow.iloadN (pc' := 1) B e1_0 ?_
 refine Ow.ifT (pc' := 15) B e1_1 (by decide) ?_
 refine Ow.iloadN (pc' := 16) B e1_15 ?_
 refine Ow.iconst (pc' := 17) (x := 1) B e1_16 ?_
 refine Ow.icmpT (pc' := 40) B e1_17 (by decide) ?_
 refine Ow.iloadN (pc' := 41) B e1_40 ?_
 refine Ow.iconst (pc' := 42) (x := 2) B e1_41 ?_
 refine Ow.icmpF (pc' := 45) B e1_42 (by decide) ?_
 refine Ow.iconst (pc' := 46) (x := 2) B e1_45 ?_
 refine Ow.newArr (pc' := 48) (k' := 1) (n' := 2) (cap := 2) B e1_46 (w9 hw) (by decide) (by decide) ?_
 intro h2 a1 ka1 ga1 ba1 Kh2 V0a1
 have zh2 := Kh2.1
 have la1 : (a1 : Nat) < h2.size := V0a1.lt
 have Va1 : Arv Z h2 a1 ka1 .char (2 : Int32) [(.int 0), (.int 0)] (.int 0) := V0a1.pad (pad_rep [] (.int 0) 2)
 refine Ow.astore (pc' := 50) (Ls' := #[.val (.int 2), .val (.int px0), .val (.int px1), .val (.int px2), .val (.int px3), .val (.ref a1)]) B e1_48 ?_
 refine Ow.aload (pc' := 52) B e1_50 ?_
 refine Ow.iconst (pc' := 53) (x := 0) B e1_52 ?_
 refine Ow.iloadN (pc' := 54) B e1_53 ?_
 refine Ow.castore (pc' := 55) (i := 0) B e1_54 Va1 ⟨by decide, by decide⟩ ?_
 intro h3 Kh3 V0h3
 have zh3 := Kh3.1
 have V4 : Arv Z h3 a1 ka1 .char (2 : Int32) [(.int px0), (.int 0)] (.int 0) := (by have e0 := V0h3; rw [show nar .char px0 = px0 from hc_px0] at e0; exact e0)
 refine Ow.aload (pc' := 57) B e1_55 ?_
 refine Ow.iconst (pc' := 58) (x := 1) B e1_57 ?_
 refine Ow.iloadN (pc' := 59) B e1_58 ?_
 refine Ow.castore (pc' := 60) (i := 1) B e1_59 V4 ⟨by decide, by decide⟩ ?_
 intro h5 Kh5 V0h5
 have zh5 := Kh5.1
 have V6 : Arv Z h5 a1 ka1 .char (2 : Int32) [(.int px0), (.int px1)] (.int 0) := (by have e0 := V0h5; rw [show nar .char px1 = px1 from hc_px1] at e0; exact e0)
 refine Ow.newObj (pc' := 63) (k' := 2) (n' := 6) B e1_60 (w6 hw) (w7 hw) (w8 hw) ?_
 intro h8 a7 ga7 ba7 Kh8 Aa7 Da7
 have zh8 := Kh8.1
 have la7 : (a7 : Nat) < h8.size := Aa7.lt
 have f9 : Fld Z h8 a7 "java/lang/String" "value" "[B" .null := Da7 (Or.inr (w22 hw)) (ty := (.array .byte)) (by decide)
 have f10 : Fld Z h8 a7 "java/lang/String" "coder" "B" (.int 0) := Da7 (Or.inr (w23 hw)) (ty := .byte) (by decide)
 refine Ow.dup (pc' := 64) B e1_63 ?_
 refine Ow.aload (pc' := 66) B e1_64 ?_
 refine Ow.Go.old (fun o11 => ?_)
 have f12 := V6.keep Kh8 Ow.nin0
 refine Ow.callInit (pc' := 69) (W := 1) (k' := 4) (n' := 12) (argsL := [(.ref a1)]) (rest := [(.ref a7)]) B e1_66 (w10 hw) (w11 hw) (w8 hw) (w12 hw) (con_init_58 hw G GS (pa0 := a7) (pa1 := a1) (px0 := px0) (px1 := px1) (pk0 := ka1) o11 Aa7 f10 f9 f12 (by omega) (by omega) (hk0) (hk1) (hk2) (hk3) hc_px0 hc_px1) pd1 ?_
 intro vq13 h14 S15 q13 zh14
 obtain ⟨r16, k17, rfl, Kh14, br16, f18, rfl⟩ := q13
 have lr16 : (r16 : Nat) < h14.size := f18.ltt
 refine Ow.Go.nr (S' := [a7, a1]) (st' := [(.ref a7)]) ?_
 exact Ow.retA (S' := []) (t := (.object "java/lang/String")) B e1_69 (⟨a7, r16, k17, rfl, ((((((Keep.refl _ []).trans Kh2 (fun _ q => nomatch q)).trans Kh3 (allS (Or.inr (by omega)) all0)).trans Kh5 (allS (Or.inr (by omega)) all0)).trans Kh8 (fun _ q => nomatch q)).trans Kh14 (allS (Or.inr (by omega)) all0)), (by omega), (by omega), (by omega), f18, rfl⟩)
set_option maxRecDepth 65536 in
set_option maxHeartbeats 40000000 in
theorem con_isEmpty_60 (hw : Hw a0 Z) (G : Ow.Glo Z cz sf) (GS : GlS Z) {pa0 : Nat} {pa1 : Nat} {px0 : Int32} {px1 : Int32} {pk0 : ClassId} {h0 : Heap} (O0 : Old Z n0 h0) (hf0 : Ow.Chs Z h0 pa0 pa1 pk0 [px0, px1]) (hn0 : n0 ≤ pa0) (hn1 : n0 ≤ pa1) (hc_px0 : nar .char px0 = px0) (hc_px1 : nar .char px1 = px1) :
    Ow.Con l Z EL1 n0 my3 jdk_42_method_55_code 1 (Option.some Jvm.ClassFile.FieldType.boolean) [] ({ frames := 0, cells := 0, slots := 0, locals := 0 } : Room) #[(.ref pa0)] [] h0 (fun v h S' => (v = some (.int 0) ∧ h = h0 ∧ S' = [])) := by
 rcases hf0.2.2.2 with ⟨oc_hf0, oa_hf0, ol_hf0⟩ | ⟨oc_hf0, oa_hf0, ou_hf0⟩
 ·refine Ow.Con.enter (Ls := #[.val (.ref pa0)]) (plainFor_of_name pn1) O0 (hEW hw) (hSA hw) ?_
  intro p e s m below meth c B
  have z0 := Ow.old_le O0
  have oE_hf0 := hf0.1
  have oV_hf0 := hf0.2.1
  have oR_hf0 := hf0.2.2.1
  have oA_hf0 : Arv Z h0 pa1 pk0 .byte (2 : Int32) [(.int px0.toInt8.toInt32), (.int px1.toInt8.toInt32)] (.int 0) := oa_hf0
  have lpa0 : (pa0 : Nat) < h0.size := hf0.lt
  have lpa1 : (pa1 : Nat) < h0.size := oA_hf0.lt
  have lpa1 : (pa1 : Nat) < h0.size := hf0.ltt
  refine Ow.aloadN (pc' := 1) B e4_0 ?_
  refine Ow.getfield (pc' := 4) B e4_1 (w26 hw) Via.refl oV_hf0 ?_
  refine Ow.arrlen (pc' := 5) B e4_4 oA_hf0 ?_
  refine Ow.ifT (pc' := 12) B e4_5 (by decide) ?_
  refine Ow.iconst (pc' := 13) (x := 0) B e4_12 ?_
  exact Ow.retI (S' := []) (t := .boolean) B e4_13 (⟨rfl, rfl, rfl⟩)
 ·refine Ow.Con.enter (Ls := #[.val (.ref pa0)]) (plainFor_of_name pn1) O0 (hEW hw) (hSA hw) ?_
  intro p e s m below meth c B
  have z0 := Ow.old_le O0
  have oE_hf0 := hf0.1
  have oV_hf0 := hf0.2.1
  have oR_hf0 := hf0.2.2.1
  have oA_hf0 : Arv Z h0 pa1 pk0 .byte (4 : Int32) [(.int px0.toInt8.toInt32), (.int (px0 >>> ((8 : Int32) &&& 31)).toInt8.toInt32), (.int px1.toInt8.toInt32), (.int (px1 >>> ((8 : Int32) &&& 31)).toInt8.toInt32)] (.int 0) := oa_hf0
  have lpa0 : (pa0 : Nat) < h0.size := hf0.lt
  have lpa1 : (pa1 : Nat) < h0.size := oA_hf0.lt
  have lpa1 : (pa1 : Nat) < h0.size := hf0.ltt
  refine Ow.aloadN (pc' := 1) B e4_0 ?_
  refine Ow.getfield (pc' := 4) B e4_1 (w26 hw) Via.refl oV_hf0 ?_
  refine Ow.arrlen (pc' := 5) B e4_4 oA_hf0 ?_
  refine Ow.ifT (pc' := 12) B e4_5 (by decide) ?_
  refine Ow.iconst (pc' := 13) (x := 0) B e4_12 ?_
  exact Ow.retI (S' := []) (t := .boolean) B e4_13 (⟨rfl, rfl, rfl⟩)
set_option maxRecDepth 65536 in
set_option maxHeartbeats 40000000 in
theorem con_length_61 (hw : Hw a0 Z) (G : Ow.Glo Z cz sf) (GS : GlS Z) {pa0 : Nat} {pa1 : Nat} {px0 : Int32} {px1 : Int32} {pk0 : ClassId} {h0 : Heap} (O0 : Old Z n0 h0) (hf0 : Ow.Chs Z h0 pa0 pa1 pk0 [px0, px1]) (hn0 : n0 ≤ pa0) (hn1 : n0 ≤ pa1) (hc_px0 : nar .char px0 = px0) (hc_px1 : nar .char px1 = px1) :
    Ow.Con l Z EL1 n0 my16 jdk_42_method_54_code 1 (Option.some Jvm.ClassFile.FieldType.int) [] ({ frames := 1, cells := 0, slots := 0, locals := 13 } : Room) #[(.ref pa0)] [] h0 (fun v h S' => (v = some (.int 2) ∧ h = h0 ∧ S' = [])) := by
 rcases hf0.2.2.2 with ⟨oc_hf0, oa_hf0, ol_hf0⟩ | ⟨oc_hf0, oa_hf0, ou_hf0⟩
 ·refine Ow.Con.enter (Ls := #[.val (.ref pa0)]) (plainFor_of_name pn1) O0 (hEW hw) (hSA hw) ?_
  intro p e s m below meth c B
  have z0 := Ow.old_le O0
  have oE_hf0 := hf0.1
  have oV_hf0 := hf0.2.1
  have oR_hf0 := hf0.2.2.1
  have oA_hf0 : Arv Z h0 pa1 pk0 .byte (2 : Int32) [(.int px0.toInt8.toInt32), (.int px1.toInt8.toInt32)] (.int 0) := oa_hf0
  have lpa0 : (pa0 : Nat) < h0.size := hf0.lt
  have lpa1 : (pa1 : Nat) < h0.size := oA_hf0.lt
  have lpa1 : (pa1 : Nat) < h0.size := hf0.ltt
  refine Ow.aloadN (pc' := 1) B e15_0 ?_
  refine Ow.getfield (pc' := 4) B e15_1 (w26 hw) Via.refl oV_hf0 ?_
  refine Ow.arrlen (pc' := 5) B e15_4 oA_hf0 ?_
  refine Ow.aloadN (pc' := 6) B e15_5 ?_
  refine Ow.Go.old (fun o1 => ?_)
  refine Ow.callVirtual (pc' := 9) (W := 1) (k' := 0) (n' := 0) (argsL := []) (rest := [(.int 2)]) (K := "java/lang/String") B e15_6 (w56 hw) (w57 hw) (w59 hw) (w59 hw) (w58 hw) (w8 hw) (w60 hw) oE_hf0 (con_coder_21 hw G GS (pa0 := pa0) o1 oc_hf0 (by omega)) pd13 ?_
  intro vq2 h3 S4 q2 zh3
  obtain ⟨rfl, rfl, rfl⟩ := q2
  refine Ow.Go.nr (S' := []) (st' := [(.int 0), (.int 2)]) ?_
  refine Ow.ishr (pc' := 10) (z := 2) B e15_9 ?_
  exact Ow.retI (S' := []) (t := .int) B e15_10 (⟨rfl, rfl, rfl⟩)
 ·refine Ow.Con.enter (Ls := #[.val (.ref pa0)]) (plainFor_of_name pn1) O0 (hEW hw) (hSA hw) ?_
  intro p e s m below meth c B
  have z0 := Ow.old_le O0
  have oE_hf0 := hf0.1
  have oV_hf0 := hf0.2.1
  have oR_hf0 := hf0.2.2.1
  have oA_hf0 : Arv Z h0 pa1 pk0 .byte (4 : Int32) [(.int px0.toInt8.toInt32), (.int (px0 >>> ((8 : Int32) &&& 31)).toInt8.toInt32), (.int px1.toInt8.toInt32), (.int (px1 >>> ((8 : Int32) &&& 31)).toInt8.toInt32)] (.int 0) := oa_hf0
  have lpa0 : (pa0 : Nat) < h0.size := hf0.lt
  have lpa1 : (pa1 : Nat) < h0.size := oA_hf0.lt
  have lpa1 : (pa1 : Nat) < h0.size := hf0.ltt
  refine Ow.aloadN (pc' := 1) B e15_0 ?_
  refine Ow.getfield (pc' := 4) B e15_1 (w26 hw) Via.refl oV_hf0 ?_
  refine Ow.arrlen (pc' := 5) B e15_4 oA_hf0 ?_
  refine Ow.aloadN (pc' := 6) B e15_5 ?_
  refine Ow.Go.old (fun o1 => ?_)
  refine Ow.callVirtual (pc' := 9) (W := 1) (k' := 0) (n' := 0) (argsL := []) (rest := [(.int 4)]) (K := "java/lang/String") B e15_6 (w56 hw) (w57 hw) (w59 hw) (w59 hw) (w58 hw) (w8 hw) (w60 hw) oE_hf0 (con_coder_22 hw G GS (pa0 := pa0) o1 oc_hf0 (by omega)) pd13 ?_
  intro vq2 h3 S4 q2 zh3
  obtain ⟨rfl, rfl, rfl⟩ := q2
  refine Ow.Go.nr (S' := []) (st' := [(.int 1), (.int 4)]) ?_
  refine Ow.ishr (pc' := 10) (z := 2) B e15_9 ?_
  exact Ow.retI (S' := []) (t := .int) B e15_10 (⟨rfl, rfl, rfl⟩)
set_option maxRecDepth 65536 in
set_option maxHeartbeats 40000000 in
theorem con_charAt_62 (hw : Hw a0 Z) (G : Ow.Glo Z cz sf) (GS : GlS Z) {pa0 : Nat} {px0 : Int32} {px1 : Int32} {pk0 : ClassId} {h0 : Heap} (O0 : Old Z n0 h0) (hf0 : Arv Z h0 pa0 pk0 .byte (2 : Int32) [(.int px0.toInt8.toInt32), (.int px1.toInt8.toInt32)] (.int 0)) (hn0 : n0 ≤ pa0) (hk0 : ¬ (px0 < (0 : Int32))) (hk1 : ¬ ((255 : Int32) < px0)) (hc_px0 : nar .char px0 = px0) (hc_px1 : nar .char px1 = px1) :
    Ow.Con l Z EL1 n0 my20 jdk_43_method_2_code 2 (Option.some Jvm.ClassFile.FieldType.char) [] ({ frames := 2, cells := 0, slots := 0, locals := 27 } : Room) #[(.ref pa0), (.int 0)] [] h0 (fun v h S' => (v = some (.int px0) ∧ h = h0 ∧ S' = [])) := by
 refine Ow.Con.enter (Ls := #[.val (.ref pa0), .val (.int 0)]) (plainFor_of_name pn4) O0 (hEW hw) (hSA hw) ?_
 intro p e s m below meth c B
 have z0 := Ow.old_le O0
 have lpa0 : (pa0 : Nat) < h0.size := hf0.lt
 refine Ow.iloadN (pc' := 1) B e19_0 ?_
 refine Ow.aloadN (pc' := 2) B e19_1 ?_
 refine Ow.arrlen (pc' := 3) B e19_2 hf0 ?_
 refine Ow.Go.old (fun o1 => ?_)
 refine Ow.callStatic (pc' := 6) (W := 0) (k' := 0) (n' := 0) (argsL := [(.int 0), (.int 2)]) (rest := []) B e19_3 (w75 hw) (w76 hw) (w8 hw) (w77 hw) (con_checkIndex_26 hw G GS (px0 := (0 : Int32)) (px1 := (2 : Int32)) o1 (by decide) (by decide)) pd16 ?_
 intro vq2 h3 S4 q2 zh3
 obtain ⟨rfl, rfl, rfl⟩ := q2
 refine Ow.Go.nr (S' := []) (st' := []) ?_
 refine Ow.aloadN (pc' := 7) B e19_6 ?_
 refine Ow.iloadN (pc' := 8) B e19_7 ?_
 refine Ow.baload (pc' := 9) B e19_8 hf0 ⟨by decide, by decide⟩ rfl ?_
 refine Ow.sipush (pc' := 12) (x := 255) B e19_9 ?_
 refine Ow.iand (pc' := 13) (z := px0) (hz := (Ow.b255 (hk0) (hk1))) B e19_12 ?_
 refine Ow.i2c (pc' := 14) (z := px0) (hz := (Ow.c_id (hk0) (hk1))) B e19_13 ?_
 exact Ow.retI (S' := []) (t := .char) (hnn := (Ow.cnarrow (Ow.nar_id (hk0) (hk1)))) B e19_14 (⟨rfl, rfl, rfl⟩)
set_option maxRecDepth 65536 in
set_option maxHeartbeats 40000000 in
theorem con_length_63 (hw : Hw a0 Z) (G : Ow.Glo Z cz sf) (GS : GlS Z) {pa0 : Nat} {px0 : Int32} {px1 : Int32} {pk0 : ClassId} {h0 : Heap} (O0 : Old Z n0 h0) (hf0 : Arv Z h0 pa0 pk0 .byte (4 : Int32) [(.int px0.toInt8.toInt32), (.int (px0 >>> ((8 : Int32) &&& 31)).toInt8.toInt32), (.int px1.toInt8.toInt32), (.int (px1 >>> ((8 : Int32) &&& 31)).toInt8.toInt32)] (.int 0)) (hn0 : n0 ≤ pa0) (hc_px0 : nar .char px0 = px0) (hc_px1 : nar .char px1 = px1) :
    Ow.Con l Z EL1 n0 my21 jdk_52_method_6_code 1 (Option.some Jvm.ClassFile.FieldType.int) [] ({ frames := 0, cells := 0, slots := 0, locals := 0 } : Room) #[(.ref pa0)] [] h0 (fun v h S' => (v = some (.int 2) ∧ h = h0 ∧ S' = [])) := by
 refine Ow.Con.enter (Ls := #[.val (.ref pa0)]) (plainFor_of_name pn3) O0 (hEW hw) (hSA hw) ?_
 intro p e s m below meth c B
 have z0 := Ow.old_le O0
 have lpa0 : (pa0 : Nat) < h0.size := hf0.lt
 refine Ow.aloadN (pc' := 1) B e24_0 ?_
 refine Ow.arrlen (pc' := 2) B e24_1 hf0 ?_
 refine Ow.iconst (pc' := 3) (x := 1) B e24_2 ?_
 refine Ow.ishr (pc' := 4) (z := 2) B e24_3 ?_
 exact Ow.retI (S' := []) (t := .int) B e24_4 (⟨rfl, rfl, rfl⟩)
set_option maxRecDepth 65536 in
set_option maxHeartbeats 40000000 in
theorem con_checkIndex_64 (hw : Hw a0 Z) (G : Ow.Glo Z cz sf) (GS : GlS Z) {pa0 : Nat} {px0 : Int32} {px1 : Int32} {pk0 : ClassId} {h0 : Heap} (O0 : Old Z n0 h0) (hf0 : Arv Z h0 pa0 pk0 .byte (4 : Int32) [(.int px0.toInt8.toInt32), (.int (px0 >>> ((8 : Int32) &&& 31)).toInt8.toInt32), (.int px1.toInt8.toInt32), (.int (px1 >>> ((8 : Int32) &&& 31)).toInt8.toInt32)] (.int 0)) (hn0 : n0 ≤ pa0) (hc_px0 : nar .char px0 = px0) (hc_px1 : nar .char px1 = px1) :
    Ow.Con l Z EL1 n0 my22 jdk_52_method_91_code 2 (Option.none : Option Jvm.ClassFile.FieldType) [] ({ frames := 2, cells := 0, slots := 0, locals := 27 } : Room) #[(.int 0), (.ref pa0)] [] h0 (fun v h S' => (v = none ∧ h = h0 ∧ S' = [])) := by
 refine Ow.Con.enter (Ls := #[.val (.int 0), .val (.ref pa0)]) (plainFor_of_name pn3) O0 (hEW hw) (hSA hw) ?_
 intro p e s m below meth c B
 have z0 := Ow.old_le O0
 have lpa0 : (pa0 : Nat) < h0.size := hf0.lt
 refine Ow.iloadN (pc' := 1) B e23_0 ?_
 refine Ow.aloadN (pc' := 2) B e23_1 ?_
 refine Ow.Go.old (fun o1 => ?_)
 refine Ow.callStatic (pc' := 5) (W := 1) (k' := 0) (n' := 0) (argsL := [(.ref pa0)]) (rest := [(.int 0)]) B e23_2 (w139 hw) (w140 hw) (w40 hw) (w141 hw) (con_length_63 hw G GS (pa0 := pa0) (px0 := px0) (px1 := px1) (pk0 := pk0) o1 hf0 (by omega) hc_px0 hc_px1) pd17 ?_
 intro vq2 h3 S4 q2 zh3
 obtain ⟨rfl, rfl, rfl⟩ := q2
 refine Ow.Go.nr (S' := []) (st' := [(.int 2), (.int 0)]) ?_
 refine Ow.Go.old (fun o5 => ?_)
 refine Ow.callStatic (pc' := 8) (W := 0) (k' := 0) (n' := 0) (argsL := [(.int 0), (.int 2)]) (rest := []) B e23_5 (w142 hw) (w76 hw) (w8 hw) (w77 hw) (con_checkIndex_26 hw G GS (px0 := (0 : Int32)) (px1 := (2 : Int32)) o5 (by decide) (by decide)) pd16 ?_
 intro vq6 h7 S8 q6 zh7
 obtain ⟨rfl, rfl, rfl⟩ := q6
 refine Ow.Go.nr (S' := []) (st' := []) ?_
 exact Ow.retV (S' := []) B e23_8 (⟨rfl, rfl, rfl⟩)
set_option maxRecDepth 65536 in
set_option maxHeartbeats 40000000 in
theorem con_getChar_65 (hw : Hw a0 Z) (G : Ow.Glo Z cz sf) (GS : GlS Z) {pa0 : Nat} {px0 : Int32} {px1 : Int32} {pk0 : ClassId} {h0 : Heap} (O0 : Old Z n0 h0) (hf0 : Arv Z h0 pa0 pk0 .byte (4 : Int32) [(.int px0.toInt8.toInt32), (.int (px0 >>> ((8 : Int32) &&& 31)).toInt8.toInt32), (.int px1.toInt8.toInt32), (.int (px1 >>> ((8 : Int32) &&& 31)).toInt8.toInt32)] (.int 0)) (hn0 : n0 ≤ pa0) (hk0 : ¬ (px0 < (0 : Int32))) (hk1 : ¬ ((65535 : Int32) < px0)) (hc_px0 : nar .char px0 = px0) (hc_px1 : nar .char px1 = px1) :
    Ow.Con l Z EL1 n0 my10 jdk_52_method_5_code 2 (Option.some Jvm.ClassFile.FieldType.char) [] ({ frames := 0, cells := 0, slots := 0, locals := 0 } : Room) #[(.ref pa0), (.int 0)] [] h0 (fun v h S' => (v = some (.int px0) ∧ h = h0 ∧ S' = [])) := by
 refine Ow.Con.enter (Ls := #[.val (.ref pa0), .val (.int 0)]) (plainFor_of_name pn3) O0 (hEW hw) (hSA hw) ?_
 intro p e s m below meth c B
 have z0 := Ow.old_le O0
 have lpa0 : (pa0 : Nat) < h0.size := hf0.lt
 refine Ow.getstatic (pc' := 3) B e11_0 (w127 hw) Via.refl GS.1 ?_
 refine Ow.ifT (pc' := 28) B e11_3 (by decide) ?_
 refine Ow.iloadN (pc' := 29) B e11_28 ?_
 refine Ow.iconst (pc' := 30) (x := 1) B e11_29 ?_
 refine Ow.ishl (pc' := 31) (z := 0) B e11_30 ?_
 refine Ow.istoreN (pc' := 32) (Ls' := #[.val (.ref pa0), .val (.int 0)]) B e11_31 ?_
 refine Ow.aloadN (pc' := 33) B e11_32 ?_
 refine Ow.iloadN (pc' := 34) B e11_33 ?_
 refine Ow.iinc (pc' := 37) (y := 1) (Ls' := #[.val (.ref pa0), .val (.int 1)]) B e11_34 ?_
 refine Ow.baload (pc' := 38) B e11_37 hf0 ⟨by decide, by decide⟩ rfl ?_
 refine Ow.sipush (pc' := 41) (x := 255) B e11_38 ?_
 refine Ow.iand (pc' := 42) (z := (px0.toInt8.toInt32 &&& (255 : Int32))) B e11_41 ?_
 refine Ow.getstatic (pc' := 45) B e11_42 (w128 hw) Via.refl GS.2.1 ?_
 refine Ow.ishl (pc' := 46) (z := ((px0.toInt8.toInt32 &&& (255 : Int32)) <<< ((0 : Int32) &&& 31))) B e11_45 ?_
 refine Ow.aloadN (pc' := 47) B e11_46 ?_
 refine Ow.iloadN (pc' := 48) B e11_47 ?_
 refine Ow.baload (pc' := 49) B e11_48 hf0 ⟨by decide, by decide⟩ rfl ?_
 refine Ow.sipush (pc' := 52) (x := 255) B e11_49 ?_
 refine Ow.iand (pc' := 53) (z := ((px0 >>> ((8 : Int32) &&& 31)).toInt8.toInt32 &&& (255 : Int32))) B e11_52 ?_
 refine Ow.getstatic (pc' := 56) B e11_53 (w129 hw) Via.refl GS.2.2 ?_
 refine Ow.ishl (pc' := 57) (z := (((px0 >>> ((8 : Int32) &&& 31)).toInt8.toInt32 &&& (255 : Int32)) <<< ((8 : Int32) &&& 31))) B e11_56 ?_
 refine Ow.ior (pc' := 58) (z := px0) (hz := (Ow.u16 (hk0) (hk1))) B e11_57 ?_
 refine Ow.i2c (pc' := 59) (z := px0) (hz := hc_px0) B e11_58 ?_
 exact Ow.retI (S' := []) (t := .char) (hnn := (Ow.cnarrow hc_px0)) B e11_59 (⟨rfl, rfl, rfl⟩)
set_option maxRecDepth 65536 in
set_option maxHeartbeats 40000000 in
theorem con_charAt_66 (hw : Hw a0 Z) (G : Ow.Glo Z cz sf) (GS : GlS Z) {pa0 : Nat} {px0 : Int32} {px1 : Int32} {pk0 : ClassId} {h0 : Heap} (O0 : Old Z n0 h0) (hf0 : Arv Z h0 pa0 pk0 .byte (4 : Int32) [(.int px0.toInt8.toInt32), (.int (px0 >>> ((8 : Int32) &&& 31)).toInt8.toInt32), (.int px1.toInt8.toInt32), (.int (px1 >>> ((8 : Int32) &&& 31)).toInt8.toInt32)] (.int 0)) (hn0 : n0 ≤ pa0) (hk0 : ¬ (px0 < (0 : Int32))) (hk1 : ¬ ((65535 : Int32) < px0)) (hc_px0 : nar .char px0 = px0) (hc_px1 : nar .char px1 = px1) :
    Ow.Con l Z EL1 n0 my23 jdk_52_method_83_code 2 (Option.some Jvm.ClassFile.FieldType.char) [] ({ frames := 3, cells := 0, slots := 0, locals := 40 } : Room) #[(.ref pa0), (.int 0)] [] h0 (fun v h S' => (v = some (.int px0) ∧ h = h0 ∧ S' = [])) := by
 refine Ow.Con.enter (Ls := #[.val (.ref pa0), .val (.int 0)]) (plainFor_of_name pn3) O0 (hEW hw) (hSA hw) ?_
 intro p e s m below meth c B
 have z0 := Ow.old_le O0
 have lpa0 : (pa0 : Nat) < h0.size := hf0.lt
 refine Ow.iloadN (pc' := 1) B e22_0 ?_
 refine Ow.aloadN (pc' := 2) B e22_1 ?_
 refine Ow.Go.old (fun o1 => ?_)
 refine Ow.callStatic (pc' := 5) (W := 0) (k' := 0) (n' := 0) (argsL := [(.int 0), (.ref pa0)]) (rest := []) B e22_2 (w136 hw) (w137 hw) (w40 hw) (w138 hw) (con_checkIndex_64 hw G GS (pa0 := pa0) (px0 := px0) (px1 := px1) (pk0 := pk0) o1 hf0 (by omega) hc_px0 hc_px1) pd18 ?_
 intro vq2 h3 S4 q2 zh3
 obtain ⟨rfl, rfl, rfl⟩ := q2
 refine Ow.Go.nr (S' := []) (st' := []) ?_
 refine Ow.aloadN (pc' := 6) B e22_5 ?_
 refine Ow.iloadN (pc' := 7) B e22_6 ?_
 refine Ow.Go.old (fun o5 => ?_)
 refine Ow.callStatic (pc' := 10) (W := 0) (k' := 0) (n' := 0) (argsL := [(.ref pa0), (.int 0)]) (rest := []) B e22_7 (w130 hw) (w131 hw) (w40 hw) (w132 hw) (con_getChar_65 hw G GS (pa0 := pa0) (px0 := px0) (px1 := px1) (pk0 := pk0) o5 hf0 (by omega) (hk0) (hk1) hc_px0 hc_px1) pd10 ?_
 intro vq6 h7 S8 q6 zh7
 obtain ⟨rfl, rfl, rfl⟩ := q6
 refine Ow.Go.nr (S' := []) (st' := [(.int px0)]) ?_
 exact Ow.retI (S' := []) (t := .char) (hnn := (Ow.cnarrow hc_px0)) B e22_10 (⟨rfl, rfl, rfl⟩)
set_option maxRecDepth 65536 in
set_option maxHeartbeats 40000000 in
theorem con_charAt_67 (hw : Hw a0 Z) (G : Ow.Glo Z cz sf) (GS : GlS Z) {pa0 : Nat} {pa1 : Nat} {px0 : Int32} {px1 : Int32} {pk0 : ClassId} {h0 : Heap} (O0 : Old Z n0 h0) (hf0 : Ow.Chs Z h0 pa0 pa1 pk0 [px0, px1]) (hn0 : n0 ≤ pa0) (hn1 : n0 ≤ pa1) (hk0 : ¬ (px0 < (0 : Int32))) (hk1 : ¬ ((65535 : Int32) < px0)) (hc_px0 : nar .char px0 = px0) (hc_px1 : nar .char px1 = px1) :
    Ow.Con l Z EL1 n0 my24 jdk_42_method_56_code 2 (Option.some Jvm.ClassFile.FieldType.char) [] ({ frames := 4, cells := 0, slots := 0, locals := 53 } : Room) #[(.ref pa0), (.int 0)] [] h0 (fun v h S' => (v = some (.int px0) ∧ h = h0 ∧ S' = [])) := by
 rcases hf0.2.2.2 with ⟨oc_hf0, oa_hf0, ol_hf0⟩ | ⟨oc_hf0, oa_hf0, ou_hf0⟩
 ·refine Ow.Con.enter (Ls := #[.val (.ref pa0), .val (.int 0)]) (plainFor_of_name pn1) O0 (hEW hw) (hSA hw) ?_
  intro p e s m below meth c B
  have z0 := Ow.old_le O0
  have oE_hf0 := hf0.1
  have oV_hf0 := hf0.2.1
  have oR_hf0 := hf0.2.2.1
  have oA_hf0 : Arv Z h0 pa1 pk0 .byte (2 : Int32) [(.int px0.toInt8.toInt32), (.int px1.toInt8.toInt32)] (.int 0) := oa_hf0
  have lpa0 : (pa0 : Nat) < h0.size := hf0.lt
  have lpa1 : (pa1 : Nat) < h0.size := oA_hf0.lt
  have lpa1 : (pa1 : Nat) < h0.size := hf0.ltt
  refine Ow.aloadN (pc' := 1) B e17_0 ?_
  refine Ow.Go.old (fun o1 => ?_)
  refine Ow.callVirtual (pc' := 4) (W := 0) (k' := 0) (n' := 0) (argsL := []) (rest := []) (K := "java/lang/String") B e17_1 (w66 hw) (w67 hw) (w69 hw) (w69 hw) (w68 hw) (w8 hw) (w70 hw) oE_hf0 (con_isLatin1_24 hw G GS (pa0 := pa0) o1 oc_hf0 (by omega)) pd3 ?_
  intro vq2 h3 S4 q2 zh3
  obtain ⟨rfl, rfl, rfl⟩ := q2
  refine Ow.Go.nr (S' := []) (st' := [(.int 1)]) ?_
  refine Ow.ifF (pc' := 7) B e17_4 (by decide) ?_
  refine Ow.aloadN (pc' := 8) B e17_7 ?_
  refine Ow.getfield (pc' := 11) B e17_8 (w26 hw) Via.refl oV_hf0 ?_
  refine Ow.iloadN (pc' := 12) B e17_11 ?_
  refine Ow.Go.old (fun o5 => ?_)
  refine Ow.callStatic (pc' := 15) (W := 0) (k' := 0) (n' := 0) (argsL := [(.ref pa1), (.int 0)]) (rest := []) B e17_12 (w71 hw) (w72 hw) (w73 hw) (w74 hw) (con_charAt_62 hw G GS (pa0 := pa1) (px0 := px0) (px1 := px1) (pk0 := pk0) o5 oA_hf0 (by omega) (hk0) (ol_hf0 px0 (by simp)) hc_px0 hc_px1) pd10 ?_
  intro vq6 h7 S8 q6 zh7
  obtain ⟨rfl, rfl, rfl⟩ := q6
  refine Ow.Go.nr (S' := []) (st' := [(.int px0)]) ?_
  exact Ow.retI (S' := []) (t := .char) (hnn := (Ow.cnarrow hc_px0)) B e17_15 (⟨rfl, rfl, rfl⟩)
 ·refine Ow.Con.enter (Ls := #[.val (.ref pa0), .val (.int 0)]) (plainFor_of_name pn1) O0 (hEW hw) (hSA hw) ?_
  intro p e s m below meth c B
  have z0 := Ow.old_le O0
  have oE_hf0 := hf0.1
  have oV_hf0 := hf0.2.1
  have oR_hf0 := hf0.2.2.1
  have oA_hf0 : Arv Z h0 pa1 pk0 .byte (4 : Int32) [(.int px0.toInt8.toInt32), (.int (px0 >>> ((8 : Int32) &&& 31)).toInt8.toInt32), (.int px1.toInt8.toInt32), (.int (px1 >>> ((8 : Int32) &&& 31)).toInt8.toInt32)] (.int 0) := oa_hf0
  have lpa0 : (pa0 : Nat) < h0.size := hf0.lt
  have lpa1 : (pa1 : Nat) < h0.size := oA_hf0.lt
  have lpa1 : (pa1 : Nat) < h0.size := hf0.ltt
  refine Ow.aloadN (pc' := 1) B e17_0 ?_
  refine Ow.Go.old (fun o1 => ?_)
  refine Ow.callVirtual (pc' := 4) (W := 0) (k' := 0) (n' := 0) (argsL := []) (rest := []) (K := "java/lang/String") B e17_1 (w66 hw) (w67 hw) (w69 hw) (w69 hw) (w68 hw) (w8 hw) (w70 hw) oE_hf0 (con_isLatin1_28 hw G GS (pa0 := pa0) o1 oc_hf0 (by omega)) pd3 ?_
  intro vq2 h3 S4 q2 zh3
  obtain ⟨rfl, rfl, rfl⟩ := q2
  refine Ow.Go.nr (S' := []) (st' := [(.int 0)]) ?_
  refine Ow.ifT (pc' := 16) B e17_4 (by decide) ?_
  refine Ow.aloadN (pc' := 17) B e17_16 ?_
  refine Ow.getfield (pc' := 20) B e17_17 (w26 hw) Via.refl oV_hf0 ?_
  refine Ow.iloadN (pc' := 21) B e17_20 ?_
  refine Ow.Go.old (fun o5 => ?_)
  refine Ow.callStatic (pc' := 24) (W := 0) (k' := 0) (n' := 0) (argsL := [(.ref pa1), (.int 0)]) (rest := []) B e17_21 (w133 hw) (w134 hw) (w40 hw) (w135 hw) (con_charAt_66 hw G GS (pa0 := pa1) (px0 := px0) (px1 := px1) (pk0 := pk0) o5 oA_hf0 (by omega) (hk0) (hk1) hc_px0 hc_px1) pd10 ?_
  intro vq6 h7 S8 q6 zh7
  obtain ⟨rfl, rfl, rfl⟩ := q6
  refine Ow.Go.nr (S' := []) (st' := [(.int px0)]) ?_
  exact Ow.retI (S' := []) (t := .char) (hnn := (Ow.cnarrow hc_px0)) B e17_24 (⟨rfl, rfl, rfl⟩)
set_option maxRecDepth 65536 in
set_option maxHeartbeats 40000000 in
theorem con_isToken_68 (hw : Hw a0 Z) (G : Ow.Glo Z cz sf) (GS : GlS Z) {pa0 : Nat} {pa1 : Nat} {px0 : Int32} {px1 : Int32} {pk0 : ClassId} {h0 : Heap} (O0 : Old Z n0 h0) (hf0 : Ow.Chs Z h0 pa0 pa1 pk0 [px0, px1]) (hn0 : n0 ≤ pa0) (hn1 : n0 ≤ pa1) (hk0 : ¬ (px0 < (0 : Int32))) (hk1 : ¬ ((65535 : Int32) < px0)) (hk2 : ¬ (tokP px0)) (hc_px0 : nar .char px0 = px0) (hc_px1 : nar .char px1 = px1) :
    Ow.Con l Z EL1 n0 my4 prog_28_method_5_code 4 (Option.some Jvm.ClassFile.FieldType.boolean) [] ({ frames := 5, cells := 2, slots := 64, locals := 66 } : Room) #[(.ref pa0)] [] h0 (fun v h S' => (v = some (.int 0) ∧ Keep h0 h [] ∧ ¬ (symP px0) ∧ S' = [])) := by
 refine Ow.Con.enter (Ls := #[.val (.ref pa0), .unset, .unset, .unset]) (plainFor_of_name pn2) O0 (hEW hw) (hSA hw) ?_
 intro p e s m below meth c B
 have z0 := Ow.old_le O0
 have lpa0 : (pa0 : Nat) < h0.size := hf0.lt
 have lpa1 : (pa1 : Nat) < h0.size := hf0.ltt
 refine Ow.aloadN (pc' := 1) B e0_0 ?_
 refine Ow.Go.old (fun o1 => ?_)
 refine Ow.callVirtual (pc' := 4) (W := 0) (k' := 0) (n' := 0) (argsL := []) (rest := []) (K := "java/lang/String") B e0_1 (w32 hw) (w33 hw) (w35 hw) (w35 hw) (w34 hw) (w8 hw) (w36 hw) (hf0).1 (con_isEmpty_60 hw G GS (pa0 := pa0) (pa1 := pa1) (px0 := px0) (px1 := px1) (pk0 := pk0) o1 hf0 (by omega) (by omega) hc_px0 hc_px1) pd3 ?_
 intro vq2 h3 S4 q2 zh3
 obtain ⟨rfl, rfl, rfl⟩ := q2
 refine Ow.Go.nr (S' := []) (st' := [(.int 0)]) ?_
 refine Ow.ifT (pc' := 9) B e0_4 (by decide) ?_
 refine Ow.iconst (pc' := 10) (x := 0) B e0_9 ?_
 refine Ow.istoreN (pc' := 11) (Ls' := #[.val (.ref pa0), .val (.int 0), .unset, .unset]) B e0_10 ?_
 refine Ow.iloadN (pc' := 12) B e0_11 ?_
 refine Ow.aloadN (pc' := 13) B e0_12 ?_
 refine Ow.Go.old (fun o5 => ?_)
 refine Ow.callVirtual (pc' := 16) (W := 1) (k' := 0) (n' := 0) (argsL := []) (rest := [(.int 0)]) (K := "java/lang/String") B e0_13 (w51 hw) (w52 hw) (w54 hw) (w54 hw) (w53 hw) (w8 hw) (w55 hw) (hf0).1 (con_length_61 hw G GS (pa0 := pa0) (pa1 := pa1) (px0 := px0) (px1 := px1) (pk0 := pk0) o5 hf0 (by omega) (by omega) hc_px0 hc_px1) pd14 ?_
 intro vq6 h7 S8 q6 zh7
 obtain ⟨rfl, rfl, rfl⟩ := q6
 refine Ow.Go.nr (S' := []) (st' := [(.int 2), (.int 0)]) ?_
 refine Ow.icmpF (pc' := 19) B e0_16 (by decide) ?_
 refine Ow.aloadN (pc' := 20) B e0_19 ?_
 refine Ow.iloadN (pc' := 21) B e0_20 ?_
 refine Ow.Go.old (fun o9 => ?_)
 refine Ow.callVirtual (pc' := 24) (W := 0) (k' := 0) (n' := 0) (argsL := [(.int 0)]) (rest := []) (K := "java/lang/String") B e0_21 (w61 hw) (w62 hw) (w64 hw) (w64 hw) (w63 hw) (w8 hw) (w65 hw) (hf0).1 (con_charAt_67 hw G GS (pa0 := pa0) (pa1 := pa1) (px0 := px0) (px1 := px1) (pk0 := pk0) o9 hf0 (by omega) (by omega) (hk0) (hk1) hc_px0 hc_px1) pd19 ?_
 intro vq10 h11 S12 q10 zh11
 obtain ⟨rfl, rfl, rfl⟩ := q10
 refine Ow.Go.nr (S' := []) (st' := [(.int px0)]) ?_
 refine Ow.istoreN (pc' := 25) (Ls' := #[.val (.ref pa0), .val (.int 0), .val (.int px0), .unset]) B e0_24 ?_
 by_cases c13 : alP px0
 ·exact absurd (Or.inl c13) (hk2)
 ·refine blk_no_u hw B (pb := 0) ⟨hk0, hk1⟩ c13 (fun b14 => ?_)
  refine Ow.ldcText (pc' := 73) (k' := 2) (n' := 64) (nn := 60) (vs := [(.int 33), (.int 35), (.int 36), (.int 37), (.int 38), (.int 39), (.int 42), (.int 43), (.int 45), (.int 46), (.int 94), (.int 95), (.int 96), (.int 124), (.int 126)]) (z := 15) B e0_71 (w83 hw) (by decide) ⟨by decide, by decide⟩ (by decide) (by decide) ?_
  intro h16 a15 t17 kt17 Kh16 Ea15 Ca15 Va15 At17 Na15
  have zh16 := Kh16.1
  have la15 : (a15 : Nat) < h16.size := Ea15.lt
  have lt17 : (t17 : Nat) < h16.size := At17.lt
  refine Ow.iloadN (pc' := 74) B e0_73 ?_
  refine Ow.Go.old (fun o18 => ?_)
  refine Ow.callVirtual (pc' := 77) (W := 0) (k' := 2) (n' := 64) (argsL := [(.int px0)]) (rest := []) (K := "java/lang/String") B e0_74 (w84 hw) (w85 hw) (w87 hw) (w87 hw) (w86 hw) (w8 hw) (w88 hw) Ea15 (con_indexOf_43 hw G GS (pa0 := a15) (pa1 := t17) (px0 := px0) (pk0 := kt17) o18 Ea15 Ca15 Va15 At17 (hk0) hc_px0) pd6 ?_
  intro vq19 h20 S21 q19 zh20
  rcases q19 with q19 | q19
  ·obtain ⟨y22, rfl, rfl, c23, c24, rfl⟩ := q19
   refine Ow.Go.nr (S' := []) (st' := [(.int y22)]) ?_
   refine Ow.ifF (pc' := 80) B e0_77 (tlt (c24)).2.1 ?_
   refine Ow.iconst (pc' := 81) (x := 0) B e0_80 ?_
   exact Ow.retI (S' := []) (t := .boolean) B e0_81 (⟨rfl, ((Keep.refl _ []).trans Kh16 (fun _ q => nomatch q)), c23, rfl⟩)
  ·obtain ⟨y25, rfl, rfl, c26, c27, rfl⟩ := q19
   refine Ow.Go.nr (S' := []) (st' := [(.int y25)]) ?_
   refine Ow.ifT (pc' := 82) B e0_77 (flt (c27)).2.1 ?_
   exact absurd (Or.inr (c26)) (hk2)
set_option maxRecDepth 65536 in
set_option maxHeartbeats 40000000 in
theorem seg132_4 (hw : Hw a0 Z) (G : Ow.Glo Z cz sf) (GS : GlS Z) {pa0 : Nat} {pa1 : Nat} {px0 : Int32} {px1 : Int32} {pk0 : ClassId} {dl0 : Int32} {dl1 : Int32} {dl2 : Int32} {dl3 : Int32} {dl4 : Int32} {dl5 : Int32} {dl6 : Int32} {dl7 : Int32} {dl8 : Int32} {dl9 : Int32} {p : Program} {e : Env} {s : State} {m : MethodId} {args : Array Value} {below : List Frame} {meth : Method} {c : ClassFile.Code} (B : Ow.Bdy p meth c Z EL1 a0 code maxLocals ret x.name) {h0 : Heap} (O0 : Old Z n0 h0) (hf0 : Ow.Chs Z h0 pa0 pa1 pk0 [px0, px1]) (hn0 : n0 ≤ pa0) (hn1 : n0 ≤ pa1) (hk0 : ¬ (px0 < (0 : Int32))) (hk1 : ¬ ((65535 : Int32) < px0)) (hk2 : ¬ (tokP px0)) (hc_px0 : nar .char px0 = px0) (hc_px1 : nar .char px1 = px1) :
  Ow.Go p l e room_1 s m args below meth c Z EL1 n0 x.cls (fun v _ _ => v = some (.int 1)) [] h0 22 2112 132 #[.val (.int dl0), .val (.int dl1), .val (.int dl2), .val (.int dl3), .val (.int dl4), .val (.int dl5), .val (.int dl6), .val (.int dl7), .val (.int dl8), .val (.int dl9), .val (.ref pa0), .val (.int 0)] [] := by
 have z0 := Ow.old_le O0
 have lpa0 : (pa0 : Nat) < h0.size := hf0.lt
 have lpa1 : (pa1 : Nat) < h0.size := hf0.ltt
 refine Ow.aload (pc' := 134) B at_132 ?_
 refine Ow.Go.old (fun o1 => ?_)
 refine Ow.callStatic (pc' := 137) (W := 0) (k' := 24) (n' := 2176) (argsL := [(.ref pa0)]) (rest := []) B at_134 (w28 hw) (w29 hw) (w30 hw) (w31 hw) (con_isToken_68 hw G GS (pa0 := pa0) (pa1 := pa1) (px0 := px0) (px1 := px1) (pk0 := pk0) o1 hf0 (by omega) (by omega) (hk0) (hk1) (hk2) hc_px0 hc_px1) pd4 ?_
 intro vq2 h3 S4 q2 zh3
 obtain ⟨rfl, Kh3, c5, rfl⟩ := q2
 refine Ow.Go.nr (S' := []) (st' := [(.int 0)]) ?_
 refine Ow.iload (pc' := 139) B at_137 ?_
 refine Ow.icmpF (pc' := 142) B at_139 (by decide) ?_
 refine Ow.iconst (pc' := 143) (x := 1) B at_142 ?_
 refine Ow.goto (pc' := 147) B at_143 ?_
 exact Ow.retI (S' := []) (t := .boolean) B at_147 (rfl)
set_option maxRecDepth 65536 in
set_option maxHeartbeats 40000000 in
theorem con_charAt_69 (hw : Hw a0 Z) (G : Ow.Glo Z cz sf) (GS : GlS Z) {pa0 : Nat} {px0 : Int32} {px1 : Int32} {pk0 : ClassId} {h0 : Heap} (O0 : Old Z n0 h0) (hf0 : Arv Z h0 pa0 pk0 .byte (2 : Int32) [(.int px0.toInt8.toInt32), (.int px1.toInt8.toInt32)] (.int 0)) (hn0 : n0 ≤ pa0) (hk0 : ¬ (px1 < (0 : Int32))) (hk1 : ¬ ((255 : Int32) < px1)) (hc_px0 : nar .char px0 = px0) (hc_px1 : nar .char px1 = px1) :
    Ow.Con l Z EL1 n0 my20 jdk_43_method_2_code 2 (Option.some Jvm.ClassFile.FieldType.char) [] ({ frames := 2, cells := 0, slots := 0, locals := 27 } : Room) #[(.ref pa0), (.int 1)] [] h0 (fun v h S' => (v = some (.int px1) ∧ h = h0 ∧ S' = [])) := by
 refine Ow.Con.enter (Ls := #[.val (.ref pa0), .val (.int 1)]) (plainFor_of_name pn4) O0 (hEW hw) (hSA hw) ?_
 intro p e s m below meth c B
 have z0 := Ow.old_le O0
 have lpa0 : (pa0 : Nat) < h0.size := hf0.lt
 refine Ow.iloadN (pc' := 1) B e19_0 ?_
 refine Ow.aloadN (pc' := 2) B e19_1 ?_
 refine Ow.arrlen (pc' := 3) B e19_2 hf0 ?_
 refine Ow.Go.old (fun o1 => ?_)
 refine Ow.callStatic (pc' := 6) (W := 0) (k' := 0) (n' := 0) (argsL := [(.int 1), (.int 2)]) (rest := []) B e19_3 (w75 hw) (w76 hw) (w8 hw) (w77 hw) (con_checkIndex_26 hw G GS (px0 := (1 : Int32)) (px1 := (2 : Int32)) o1 (by decide) (by decide)) pd16 ?_
 intro vq2 h3 S4 q2 zh3
 obtain ⟨rfl, rfl, rfl⟩ := q2
 refine Ow.Go.nr (S' := []) (st' := []) ?_
 refine Ow.aloadN (pc' := 7) B e19_6 ?_
 refine Ow.iloadN (pc' := 8) B e19_7 ?_
 refine Ow.baload (pc' := 9) B e19_8 hf0 ⟨by decide, by decide⟩ rfl ?_
 refine Ow.sipush (pc' := 12) (x := 255) B e19_9 ?_
 refine Ow.iand (pc' := 13) (z := px1) (hz := (Ow.b255 (hk0) (hk1))) B e19_12 ?_
 refine Ow.i2c (pc' := 14) (z := px1) (hz := (Ow.c_id (hk0) (hk1))) B e19_13 ?_
 exact Ow.retI (S' := []) (t := .char) (hnn := (Ow.cnarrow (Ow.nar_id (hk0) (hk1)))) B e19_14 (⟨rfl, rfl, rfl⟩)
set_option maxRecDepth 65536 in
set_option maxHeartbeats 40000000 in
theorem con_checkIndex_70 (hw : Hw a0 Z) (G : Ow.Glo Z cz sf) (GS : GlS Z) {pa0 : Nat} {px0 : Int32} {px1 : Int32} {pk0 : ClassId} {h0 : Heap} (O0 : Old Z n0 h0) (hf0 : Arv Z h0 pa0 pk0 .byte (4 : Int32) [(.int px0.toInt8.toInt32), (.int (px0 >>> ((8 : Int32) &&& 31)).toInt8.toInt32), (.int px1.toInt8.toInt32), (.int (px1 >>> ((8 : Int32) &&& 31)).toInt8.toInt32)] (.int 0)) (hn0 : n0 ≤ pa0) (hc_px0 : nar .char px0 = px0) (hc_px1 : nar .char px1 = px1) :
    Ow.Con l Z EL1 n0 my22 jdk_52_method_91_code 2 (Option.none : Option Jvm.ClassFile.FieldType) [] ({ frames := 2, cells := 0, slots := 0, locals := 27 } : Room) #[(.int 1), (.ref pa0)] [] h0 (fun v h S' => (v = none ∧ h = h0 ∧ S' = [])) := by
 refine Ow.Con.enter (Ls := #[.val (.int 1), .val (.ref pa0)]) (plainFor_of_name pn3) O0 (hEW hw) (hSA hw) ?_
 intro p e s m below meth c B
 have z0 := Ow.old_le O0
 have lpa0 : (pa0 : Nat) < h0.size := hf0.lt
 refine Ow.iloadN (pc' := 1) B e23_0 ?_
 refine Ow.aloadN (pc' := 2) B e23_1 ?_
 refine Ow.Go.old (fun o1 => ?_)
 refine Ow.callStatic (pc' := 5) (W := 1) (k' := 0) (n' := 0) (argsL := [(.ref pa0)]) (rest := [(.int 1)]) B e23_2 (w139 hw) (w140 hw) (w40 hw) (w141 hw) (con_length_63 hw G GS (pa0 := pa0) (px0 := px0) (px1 := px1) (pk0 := pk0) o1 hf0 (by omega) hc_px0 hc_px1) pd17 ?_
 intro vq2 h3 S4 q2 zh3
 obtain ⟨rfl, rfl, rfl⟩ := q2
 refine Ow.Go.nr (S' := []) (st' := [(.int 2), (.int 1)]) ?_
 refine Ow.Go.old (fun o5 => ?_)
 refine Ow.callStatic (pc' := 8) (W := 0) (k' := 0) (n' := 0) (argsL := [(.int 1), (.int 2)]) (rest := []) B e23_5 (w142 hw) (w76 hw) (w8 hw) (w77 hw) (con_checkIndex_26 hw G GS (px0 := (1 : Int32)) (px1 := (2 : Int32)) o5 (by decide) (by decide)) pd16 ?_
 intro vq6 h7 S8 q6 zh7
 obtain ⟨rfl, rfl, rfl⟩ := q6
 refine Ow.Go.nr (S' := []) (st' := []) ?_
 exact Ow.retV (S' := []) B e23_8 (⟨rfl, rfl, rfl⟩)
set_option maxRecDepth 65536 in
set_option maxHeartbeats 40000000 in
theorem con_getChar_71 (hw : Hw a0 Z) (G : Ow.Glo Z cz sf) (GS : GlS Z) {pa0 : Nat} {px0 : Int32} {px1 : Int32} {pk0 : ClassId} {h0 : Heap} (O0 : Old Z n0 h0) (hf0 : Arv Z h0 pa0 pk0 .byte (4 : Int32) [(.int px0.toInt8.toInt32), (.int (px0 >>> ((8 : Int32) &&& 31)).toInt8.toInt32), (.int px1.toInt8.toInt32), (.int (px1 >>> ((8 : Int32) &&& 31)).toInt8.toInt32)] (.int 0)) (hn0 : n0 ≤ pa0) (hk0 : ¬ (px1 < (0 : Int32))) (hk1 : ¬ ((65535 : Int32) < px1)) (hc_px0 : nar .char px0 = px0) (hc_px1 : nar .char px1 = px1) :
    Ow.Con l Z EL1 n0 my10 jdk_52_method_5_code 2 (Option.some Jvm.ClassFile.FieldType.char) [] ({ frames := 0, cells := 0, slots := 0, locals := 0 } : Room) #[(.ref pa0), (.int 1)] [] h0 (fun v h S' => (v = some (.int px1) ∧ h = h0 ∧ S' = [])) := by
 refine Ow.Con.enter (Ls := #[.val (.ref pa0), .val (.int 1)]) (plainFor_of_name pn3) O0 (hEW hw) (hSA hw) ?_
 intro p e s m below meth c B
 have z0 := Ow.old_le O0
 have lpa0 : (pa0 : Nat) < h0.size := hf0.lt
 refine Ow.getstatic (pc' := 3) B e11_0 (w127 hw) Via.refl GS.1 ?_
 refine Ow.ifT (pc' := 28) B e11_3 (by decide) ?_
 refine Ow.iloadN (pc' := 29) B e11_28 ?_
 refine Ow.iconst (pc' := 30) (x := 1) B e11_29 ?_
 refine Ow.ishl (pc' := 31) (z := 2) B e11_30 ?_
 refine Ow.istoreN (pc' := 32) (Ls' := #[.val (.ref pa0), .val (.int 2)]) B e11_31 ?_
 refine Ow.aloadN (pc' := 33) B e11_32 ?_
 refine Ow.iloadN (pc' := 34) B e11_33 ?_
 refine Ow.iinc (pc' := 37) (y := 3) (Ls' := #[.val (.ref pa0), .val (.int 3)]) B e11_34 ?_
 refine Ow.baload (pc' := 38) B e11_37 hf0 ⟨by decide, by decide⟩ rfl ?_
 refine Ow.sipush (pc' := 41) (x := 255) B e11_38 ?_
 refine Ow.iand (pc' := 42) (z := (px1.toInt8.toInt32 &&& (255 : Int32))) B e11_41 ?_
 refine Ow.getstatic (pc' := 45) B e11_42 (w128 hw) Via.refl GS.2.1 ?_
 refine Ow.ishl (pc' := 46) (z := ((px1.toInt8.toInt32 &&& (255 : Int32)) <<< ((0 : Int32) &&& 31))) B e11_45 ?_
 refine Ow.aloadN (pc' := 47) B e11_46 ?_
 refine Ow.iloadN (pc' := 48) B e11_47 ?_
 refine Ow.baload (pc' := 49) B e11_48 hf0 ⟨by decide, by decide⟩ rfl ?_
 refine Ow.sipush (pc' := 52) (x := 255) B e11_49 ?_
 refine Ow.iand (pc' := 53) (z := ((px1 >>> ((8 : Int32) &&& 31)).toInt8.toInt32 &&& (255 : Int32))) B e11_52 ?_
 refine Ow.getstatic (pc' := 56) B e11_53 (w129 hw) Via.refl GS.2.2 ?_
 refine Ow.ishl (pc' := 57) (z := (((px1 >>> ((8 : Int32) &&& 31)).toInt8.toInt32 &&& (255 : Int32)) <<< ((8 : Int32) &&& 31))) B e11_56 ?_
 refine Ow.ior (pc' := 58) (z := px1) (hz := (Ow.u16 (hk0) (hk1))) B e11_57 ?_
 refine Ow.i2c (pc' := 59) (z := px1) (hz := hc_px1) B e11_58 ?_
 exact Ow.retI (S' := []) (t := .char) (hnn := (Ow.cnarrow hc_px1)) B e11_59 (⟨rfl, rfl, rfl⟩)
set_option maxRecDepth 65536 in
set_option maxHeartbeats 40000000 in
theorem con_charAt_72 (hw : Hw a0 Z) (G : Ow.Glo Z cz sf) (GS : GlS Z) {pa0 : Nat} {px0 : Int32} {px1 : Int32} {pk0 : ClassId} {h0 : Heap} (O0 : Old Z n0 h0) (hf0 : Arv Z h0 pa0 pk0 .byte (4 : Int32) [(.int px0.toInt8.toInt32), (.int (px0 >>> ((8 : Int32) &&& 31)).toInt8.toInt32), (.int px1.toInt8.toInt32), (.int (px1 >>> ((8 : Int32) &&& 31)).toInt8.toInt32)] (.int 0)) (hn0 : n0 ≤ pa0) (hk0 : ¬ (px1 < (0 : Int32))) (hk1 : ¬ ((65535 : Int32) < px1)) (hc_px0 : nar .char px0 = px0) (hc_px1 : nar .char px1 = px1) :
    Ow.Con l Z EL1 n0 my23 jdk_52_method_83_code 2 (Option.some Jvm.ClassFile.FieldType.char) [] ({ frames := 3, cells := 0, slots := 0, locals := 40 } : Room) #[(.ref pa0), (.int 1)] [] h0 (fun v h S' => (v = some (.int px1) ∧ h = h0 ∧ S' = [])) := by
 refine Ow.Con.enter (Ls := #[.val (.ref pa0), .val (.int 1)]) (plainFor_of_name pn3) O0 (hEW hw) (hSA hw) ?_
 intro p e s m below meth c B
 have z0 := Ow.old_le O0
 have lpa0 : (pa0 : Nat) < h0.size := hf0.lt
 refine Ow.iloadN (pc' := 1) B e22_0 ?_
 refine Ow.aloadN (pc' := 2) B e22_1 ?_
 refine Ow.Go.old (fun o1 => ?_)
 refine Ow.callStatic (pc' := 5) (W := 0) (k' := 0) (n' := 0) (argsL := [(.int 1), (.ref pa0)]) (rest := []) B e22_2 (w136 hw) (w137 hw) (w40 hw) (w138 hw) (con_checkIndex_70 hw G GS (pa0 := pa0) (px0 := px0) (px1 := px1) (pk0 := pk0) o1 hf0 (by omega) hc_px0 hc_px1) pd18 ?_
 intro vq2 h3 S4 q2 zh3
 obtain ⟨rfl, rfl, rfl⟩ := q2
 refine Ow.Go.nr (S' := []) (st' := []) ?_
 refine Ow.aloadN (pc' := 6) B e22_5 ?_
 refine Ow.iloadN (pc' := 7) B e22_6 ?_
 refine Ow.Go.old (fun o5 => ?_)
 refine Ow.callStatic (pc' := 10) (W := 0) (k' := 0) (n' := 0) (argsL := [(.ref pa0), (.int 1)]) (rest := []) B e22_7 (w130 hw) (w131 hw) (w40 hw) (w132 hw) (con_getChar_71 hw G GS (pa0 := pa0) (px0 := px0) (px1 := px1) (pk0 := pk0) o5 hf0 (by omega) (hk0) (hk1) hc_px0 hc_px1) pd10 ?_
 intro vq6 h7 S8 q6 zh7
 obtain ⟨rfl, rfl, rfl⟩ := q6
 refine Ow.Go.nr (S' := []) (st' := [(.int px1)]) ?_
 exact Ow.retI (S' := []) (t := .char) (hnn := (Ow.cnarrow hc_px1)) B e22_10 (⟨rfl, rfl, rfl⟩)
set_option maxRecDepth 65536 in
set_option maxHeartbeats 40000000 in
theorem con_charAt_73 (hw : Hw a0 Z) (G : Ow.Glo Z cz sf) (GS : GlS Z) {pa0 : Nat} {pa1 : Nat} {px0 : Int32} {px1 : Int32} {pk0 : ClassId} {h0 : Heap} (O0 : Old Z n0 h0) (hf0 : Ow.Chs Z h0 pa0 pa1 pk0 [px0, px1]) (hn0 : n0 ≤ pa0) (hn1 : n0 ≤ pa1) (hk0 : ¬ (px1 < (0 : Int32))) (hk1 : ¬ ((65535 : Int32) < px1)) (hc_px0 : nar .char px0 = px0) (hc_px1 : nar .char px1 = px1) :
    Ow.Con l Z EL1 n0 my24 jdk_42_method_56_code 2 (Option.some Jvm.ClassFile.FieldType.char) [] ({ frames := 4, cells := 0, slots := 0, locals := 53 } : Room) #[(.ref pa0), (.int 1)] [] h0 (fun v h S' => (v = some (.int px1) ∧ h = h0 ∧ S' = [])) := by
 rcases hf0.2.2.2 with ⟨oc_hf0, oa_hf0, ol_hf0⟩ | ⟨oc_hf0, oa_hf0, ou_hf0⟩
 ·refine Ow.Con.enter (Ls := #[.val (.ref pa0), .val (.int 1)]) (plainFor_of_name pn1) O0 (hEW hw) (hSA hw) ?_
  intro p e s m below meth c B
  have z0 := Ow.old_le O0
  have oE_hf0 := hf0.1
  have oV_hf0 := hf0.2.1
  have oR_hf0 := hf0.2.2.1
  have oA_hf0 : Arv Z h0 pa1 pk0 .byte (2 : Int32) [(.int px0.toInt8.toInt32), (.int px1.toInt8.toInt32)] (.int 0) := oa_hf0
  have lpa0 : (pa0 : Nat) < h0.size := hf0.lt
  have lpa1 : (pa1 : Nat) < h0.size := oA_hf0.lt
  have lpa1 : (pa1 : Nat) < h0.size := hf0.ltt
  refine Ow.aloadN (pc' := 1) B e17_0 ?_
  refine Ow.Go.old (fun o1 => ?_)
  refine Ow.callVirtual (pc' := 4) (W := 0) (k' := 0) (n' := 0) (argsL := []) (rest := []) (K := "java/lang/String") B e17_1 (w66 hw) (w67 hw) (w69 hw) (w69 hw) (w68 hw) (w8 hw) (w70 hw) oE_hf0 (con_isLatin1_24 hw G GS (pa0 := pa0) o1 oc_hf0 (by omega)) pd3 ?_
  intro vq2 h3 S4 q2 zh3
  obtain ⟨rfl, rfl, rfl⟩ := q2
  refine Ow.Go.nr (S' := []) (st' := [(.int 1)]) ?_
  refine Ow.ifF (pc' := 7) B e17_4 (by decide) ?_
  refine Ow.aloadN (pc' := 8) B e17_7 ?_
  refine Ow.getfield (pc' := 11) B e17_8 (w26 hw) Via.refl oV_hf0 ?_
  refine Ow.iloadN (pc' := 12) B e17_11 ?_
  refine Ow.Go.old (fun o5 => ?_)
  refine Ow.callStatic (pc' := 15) (W := 0) (k' := 0) (n' := 0) (argsL := [(.ref pa1), (.int 1)]) (rest := []) B e17_12 (w71 hw) (w72 hw) (w73 hw) (w74 hw) (con_charAt_69 hw G GS (pa0 := pa1) (px0 := px0) (px1 := px1) (pk0 := pk0) o5 oA_hf0 (by omega) (hk0) (ol_hf0 px1 (by simp)) hc_px0 hc_px1) pd10 ?_
  intro vq6 h7 S8 q6 zh7
  obtain ⟨rfl, rfl, rfl⟩ := q6
  refine Ow.Go.nr (S' := []) (st' := [(.int px1)]) ?_
  exact Ow.retI (S' := []) (t := .char) (hnn := (Ow.cnarrow hc_px1)) B e17_15 (⟨rfl, rfl, rfl⟩)
 ·refine Ow.Con.enter (Ls := #[.val (.ref pa0), .val (.int 1)]) (plainFor_of_name pn1) O0 (hEW hw) (hSA hw) ?_
  intro p e s m below meth c B
  have z0 := Ow.old_le O0
  have oE_hf0 := hf0.1
  have oV_hf0 := hf0.2.1
  have oR_hf0 := hf0.2.2.1
  have oA_hf0 : Arv Z h0 pa1 pk0 .byte (4 : Int32) [(.int px0.toInt8.toInt32), (.int (px0 >>> ((8 : Int32) &&& 31)).toInt8.toInt32), (.int px1.toInt8.toInt32), (.int (px1 >>> ((8 : Int32) &&& 31)).toInt8.toInt32)] (.int 0) := oa_hf0
  have lpa0 : (pa0 : Nat) < h0.size := hf0.lt
  have lpa1 : (pa1 : Nat) < h0.size := oA_hf0.lt
  have lpa1 : (pa1 : Nat) < h0.size := hf0.ltt
  refine Ow.aloadN (pc' := 1) B e17_0 ?_
  refine Ow.Go.old (fun o1 => ?_)
  refine Ow.callVirtual (pc' := 4) (W := 0) (k' := 0) (n' := 0) (argsL := []) (rest := []) (K := "java/lang/String") B e17_1 (w66 hw) (w67 hw) (w69 hw) (w69 hw) (w68 hw) (w8 hw) (w70 hw) oE_hf0 (con_isLatin1_28 hw G GS (pa0 := pa0) o1 oc_hf0 (by omega)) pd3 ?_
  intro vq2 h3 S4 q2 zh3
  obtain ⟨rfl, rfl, rfl⟩ := q2
  refine Ow.Go.nr (S' := []) (st' := [(.int 0)]) ?_
  refine Ow.ifT (pc' := 16) B e17_4 (by decide) ?_
  refine Ow.aloadN (pc' := 17) B e17_16 ?_
  refine Ow.getfield (pc' := 20) B e17_17 (w26 hw) Via.refl oV_hf0 ?_
  refine Ow.iloadN (pc' := 21) B e17_20 ?_
  refine Ow.Go.old (fun o5 => ?_)
  refine Ow.callStatic (pc' := 24) (W := 0) (k' := 0) (n' := 0) (argsL := [(.ref pa1), (.int 1)]) (rest := []) B e17_21 (w133 hw) (w134 hw) (w40 hw) (w135 hw) (con_charAt_72 hw G GS (pa0 := pa1) (px0 := px0) (px1 := px1) (pk0 := pk0) o5 oA_hf0 (by omega) (hk0) (hk1) hc_px0 hc_px1) pd10 ?_
  intro vq6 h7 S8 q6 zh7
  obtain ⟨rfl, rfl, rfl⟩ := q6
  refine Ow.Go.nr (S' := []) (st' := [(.int px1)]) ?_
  exact Ow.retI (S' := []) (t := .char) (hnn := (Ow.cnarrow hc_px1)) B e17_24 (⟨rfl, rfl, rfl⟩)
set_option maxRecDepth 65536 in
set_option maxHeartbeats 40000000 in
theorem con_isToken_74 (hw : Hw a0 Z) (G : Ow.Glo Z cz sf) (GS : GlS Z) {pa0 : Nat} {pa1 : Nat} {px0 : Int32} {px1 : Int32} {pk0 : ClassId} {h0 : Heap} (O0 : Old Z n0 h0) (hf0 : Ow.Chs Z h0 pa0 pa1 pk0 [px0, px1]) (hn0 : n0 ≤ pa0) (hn1 : n0 ≤ pa1) (hk0 : ¬ (px0 < (0 : Int32))) (hk1 : ¬ ((65535 : Int32) < px0)) (hk2 : ¬ (px1 < (0 : Int32))) (hk3 : ¬ ((65535 : Int32) < px1)) (hk4 : tokP px0) (hk5 : ¬ (tokP px1)) (hc_px0 : nar .char px0 = px0) (hc_px1 : nar .char px1 = px1) :
    Ow.Con l Z EL1 n0 my4 prog_28_method_5_code 4 (Option.some Jvm.ClassFile.FieldType.boolean) [] ({ frames := 5, cells := 4, slots := 128, locals := 66 } : Room) #[(.ref pa0)] [] h0 (fun v h S' => (v = some (.int 0) ∧ Keep h0 h [] ∧ ¬ (symP px1) ∧ S' = [])) := by
 refine Ow.Con.enter (Ls := #[.val (.ref pa0), .unset, .unset, .unset]) (plainFor_of_name pn2) O0 (hEW hw) (hSA hw) ?_
 intro p e s m below meth c B
 have z0 := Ow.old_le O0
 have lpa0 : (pa0 : Nat) < h0.size := hf0.lt
 have lpa1 : (pa1 : Nat) < h0.size := hf0.ltt
 refine Ow.aloadN (pc' := 1) B e0_0 ?_
 refine Ow.Go.old (fun o1 => ?_)
 refine Ow.callVirtual (pc' := 4) (W := 0) (k' := 0) (n' := 0) (argsL := []) (rest := []) (K := "java/lang/String") B e0_1 (w32 hw) (w33 hw) (w35 hw) (w35 hw) (w34 hw) (w8 hw) (w36 hw) (hf0).1 (con_isEmpty_60 hw G GS (pa0 := pa0) (pa1 := pa1) (px0 := px0) (px1 := px1) (pk0 := pk0) o1 hf0 (by omega) (by omega) hc_px0 hc_px1) pd3 ?_
 intro vq2 h3 S4 q2 zh3
 obtain ⟨rfl, rfl, rfl⟩ := q2
 refine Ow.Go.nr (S' := []) (st' := [(.int 0)]) ?_
 refine Ow.ifT (pc' := 9) B e0_4 (by decide) ?_
 refine Ow.iconst (pc' := 10) (x := 0) B e0_9 ?_
 refine Ow.istoreN (pc' := 11) (Ls' := #[.val (.ref pa0), .val (.int 0), .unset, .unset]) B e0_10 ?_
 refine Ow.iloadN (pc' := 12) B e0_11 ?_
 refine Ow.aloadN (pc' := 13) B e0_12 ?_
 refine Ow.Go.old (fun o5 => ?_)
 refine Ow.callVirtual (pc' := 16) (W := 1) (k' := 0) (n' := 0) (argsL := []) (rest := [(.int 0)]) (K := "java/lang/String") B e0_13 (w51 hw) (w52 hw) (w54 hw) (w54 hw) (w53 hw) (w8 hw) (w55 hw) (hf0).1 (con_length_61 hw G GS (pa0 := pa0) (pa1 := pa1) (px0 := px0) (px1 := px1) (pk0 := pk0) o5 hf0 (by omega) (by omega) hc_px0 hc_px1) pd14 ?_
 intro vq6 h7 S8 q6 zh7
 obtain ⟨rfl, rfl, rfl⟩ := q6
 refine Ow.Go.nr (S' := []) (st' := [(.int 2), (.int 0)]) ?_
 refine Ow.icmpF (pc' := 19) B e0_16 (by decide) ?_
 refine Ow.aloadN (pc' := 20) B e0_19 ?_
 refine Ow.iloadN (pc' := 21) B e0_20 ?_
 refine Ow.Go.old (fun o9 => ?_)
 refine Ow.callVirtual (pc' := 24) (W := 0) (k' := 0) (n' := 0) (argsL := [(.int 0)]) (rest := []) (K := "java/lang/String") B e0_21 (w61 hw) (w62 hw) (w64 hw) (w64 hw) (w63 hw) (w8 hw) (w65 hw) (hf0).1 (con_charAt_67 hw G GS (pa0 := pa0) (pa1 := pa1) (px0 := px0) (px1 := px1) (pk0 := pk0) o9 hf0 (by omega) (by omega) (hk0) (hk1) hc_px0 hc_px1) pd19 ?_
 intro vq10 h11 S12 q10 zh11
 obtain ⟨rfl, rfl, rfl⟩ := q10
 refine Ow.Go.nr (S' := []) (st' := [(.int px0)]) ?_
 refine Ow.istoreN (pc' := 25) (Ls' := #[.val (.ref pa0), .val (.int 0), .val (.int px0), .unset]) B e0_24 ?_
 refine Ow.Go.joinH (α := Int32) (pc1 := 82) (k1 := 2) (n1 := 64) (fun b => #[.val (.ref pa0), .val (.int 0), .val (.int px0), .val (.int b)]) (fun _ => []) ?_ ?_
 ·intro h14 Kh14 b13
  have zh14 := Kh14.1
  refine Ow.iinc (pc' := 85) (y := 1) (Ls' := #[.val (.ref pa0), .val (.int 1), .val (.int px0), .val (.int b13)]) B e0_82 ?_
  refine Ow.goto (pc' := 11) B e0_85 ?_
  refine Ow.iloadN (pc' := 12) B e0_11 ?_
  refine Ow.aloadN (pc' := 13) B e0_12 ?_
  refine Ow.Go.old (fun o15 => ?_)
  have f16 := hf0.keep Kh14 Ow.nin0 Ow.nin0
  refine Ow.callVirtual (pc' := 16) (W := 1) (k' := 2) (n' := 64) (argsL := []) (rest := [(.int 1)]) (K := "java/lang/String") B e0_13 (w51 hw) (w52 hw) (w54 hw) (w54 hw) (w53 hw) (w8 hw) (w55 hw) (f16).1 (con_length_61 hw G GS (pa0 := pa0) (pa1 := pa1) (px0 := px0) (px1 := px1) (pk0 := pk0) o15 f16 (by omega) (by omega) hc_px0 hc_px1) pd14 ?_
  intro vq17 h18 S19 q17 zh18
  obtain ⟨rfl, rfl, rfl⟩ := q17
  refine Ow.Go.nr (S' := []) (st' := [(.int 2), (.int 1)]) ?_
  refine Ow.icmpF (pc' := 19) B e0_16 (by decide) ?_
  refine Ow.aloadN (pc' := 20) B e0_19 ?_
  refine Ow.iloadN (pc' := 21) B e0_20 ?_
  refine Ow.Go.old (fun o20 => ?_)
  refine Ow.callVirtual (pc' := 24) (W := 0) (k' := 2) (n' := 64) (argsL := [(.int 1)]) (rest := []) (K := "java/lang/String") B e0_21 (w61 hw) (w62 hw) (w64 hw) (w64 hw) (w63 hw) (w8 hw) (w65 hw) (f16).1 (con_charAt_73 hw G GS (pa0 := pa0) (pa1 := pa1) (px0 := px0) (px1 := px1) (pk0 := pk0) o20 f16 (by omega) (by omega) (hk2) (hk3) hc_px0 hc_px1) pd19 ?_
  intro vq21 h22 S23 q21 zh22
  obtain ⟨rfl, rfl, rfl⟩ := q21
  refine Ow.Go.nr (S' := []) (st' := [(.int px1)]) ?_
  refine Ow.istoreN (pc' := 25) (Ls' := #[.val (.ref pa0), .val (.int 1), .val (.int px1), .val (.int b13)]) B e0_24 ?_
  by_cases c24 : alP px1
  ·exact absurd (Or.inl c24) (hk5)
  ·refine blk_no_b hw B (pb := b13) ⟨hk2, hk3⟩ c24 (fun b25 => ?_)
   refine Ow.ldcText (pc' := 73) (k' := 4) (n' := 128) (nn := 60) (vs := [(.int 33), (.int 35), (.int 36), (.int 37), (.int 38), (.int 39), (.int 42), (.int 43), (.int 45), (.int 46), (.int 94), (.int 95), (.int 96), (.int 124), (.int 126)]) (z := 15) B e0_71 (w83 hw) (by decide) ⟨by decide, by decide⟩ (by decide) (by decide) ?_
   intro h27 a26 t28 kt28 Kh27 Ea26 Ca26 Va26 At28 Na26
   have zh27 := Kh27.1
   have la26 : (a26 : Nat) < h27.size := Ea26.lt
   have lt28 : (t28 : Nat) < h27.size := At28.lt
   refine Ow.iloadN (pc' := 74) B e0_73 ?_
   refine Ow.Go.old (fun o29 => ?_)
   refine Ow.callVirtual (pc' := 77) (W := 0) (k' := 4) (n' := 128) (argsL := [(.int px1)]) (rest := []) (K := "java/lang/String") B e0_74 (w84 hw) (w85 hw) (w87 hw) (w87 hw) (w86 hw) (w8 hw) (w88 hw) Ea26 (con_indexOf_43 hw G GS (pa0 := a26) (pa1 := t28) (px0 := px1) (pk0 := kt28) o29 Ea26 Ca26 Va26 At28 (hk2) hc_px1) pd6 ?_
   intro vq30 h31 S32 q30 zh31
   rcases q30 with q30 | q30
   ·obtain ⟨y33, rfl, rfl, c34, c35, rfl⟩ := q30
    refine Ow.Go.nr (S' := []) (st' := [(.int y33)]) ?_
    refine Ow.ifF (pc' := 80) B e0_77 (tlt (c35)).2.1 ?_
    refine Ow.iconst (pc' := 81) (x := 0) B e0_80 ?_
    exact Ow.retI (S' := []) (t := .boolean) B e0_81 (⟨rfl, (((Keep.refl _ []).trans Kh14 (fun _ q => nomatch q)).trans Kh27 (fun _ q => nomatch q)), c34, rfl⟩)
   ·obtain ⟨y36, rfl, rfl, c37, c38, rfl⟩ := q30
    refine Ow.Go.nr (S' := []) (st' := [(.int y36)]) ?_
    refine Ow.ifT (pc' := 82) B e0_77 (flt (c38)).2.1 ?_
    exact absurd (Or.inr (c37)) (hk5)
 ·intro J39
  by_cases c40 : alP px0
  ·refine blk_al_u hw B (pb := 0) ⟨hk0, hk1⟩ c40 (fun b41 => ?_)
   exact Ow.Go.mono (k' := 2) (n' := 64) (by decide) (by decide) (by simp) (J39 _ (Keep.refl _ []) _)
  ·refine blk_no_u hw B (pb := 0) ⟨hk0, hk1⟩ c40 (fun b42 => ?_)
   refine Ow.ldcText (pc' := 73) (k' := 2) (n' := 64) (nn := 60) (vs := [(.int 33), (.int 35), (.int 36), (.int 37), (.int 38), (.int 39), (.int 42), (.int 43), (.int 45), (.int 46), (.int 94), (.int 95), (.int 96), (.int 124), (.int 126)]) (z := 15) B e0_71 (w83 hw) (by decide) ⟨by decide, by decide⟩ (by decide) (by decide) ?_
   intro h44 a43 t45 kt45 Kh44 Ea43 Ca43 Va43 At45 Na43
   have zh44 := Kh44.1
   have la43 : (a43 : Nat) < h44.size := Ea43.lt
   have lt45 : (t45 : Nat) < h44.size := At45.lt
   refine Ow.iloadN (pc' := 74) B e0_73 ?_
   refine Ow.Go.old (fun o46 => ?_)
   refine Ow.callVirtual (pc' := 77) (W := 0) (k' := 2) (n' := 64) (argsL := [(.int px0)]) (rest := []) (K := "java/lang/String") B e0_74 (w84 hw) (w85 hw) (w87 hw) (w87 hw) (w86 hw) (w8 hw) (w88 hw) Ea43 (con_indexOf_43 hw G GS (pa0 := a43) (pa1 := t45) (px0 := px0) (pk0 := kt45) o46 Ea43 Ca43 Va43 At45 (hk0) hc_px0) pd6 ?_
   intro vq47 h48 S49 q47 zh48
   rcases q47 with q47 | q47
   ·obtain ⟨y50, rfl, rfl, c51, c52, rfl⟩ := q47
    refine Ow.Go.nr (S' := []) (st' := [(.int y50)]) ?_
    refine Ow.ifF (pc' := 80) B e0_77 (tlt (c52)).2.1 ?_
    exact absurd (hk4) (fun q => q.elim (fun q => c40 q) (c51))
   ·obtain ⟨y53, rfl, rfl, c54, c55, rfl⟩ := q47
    refine Ow.Go.nr (S' := []) (st' := [(.int y53)]) ?_
    refine Ow.ifT (pc' := 82) B e0_77 (flt (c55)).2.1 ?_
    exact Ow.Go.mono (k' := 2) (n' := 64) (by decide) (by decide) (by simp) (J39 _ ((Keep.refl _ []).trans Kh44 (fun _ q => nomatch q)) _)
set_option maxRecDepth 65536 in
set_option maxHeartbeats 40000000 in
theorem seg132_5 (hw : Hw a0 Z) (G : Ow.Glo Z cz sf) (GS : GlS Z) {pa0 : Nat} {pa1 : Nat} {px0 : Int32} {px1 : Int32} {pk0 : ClassId} {dl0 : Int32} {dl1 : Int32} {dl2 : Int32} {dl3 : Int32} {dl4 : Int32} {dl5 : Int32} {dl6 : Int32} {dl7 : Int32} {dl8 : Int32} {dl9 : Int32} {p : Program} {e : Env} {s : State} {m : MethodId} {args : Array Value} {below : List Frame} {meth : Method} {c : ClassFile.Code} (B : Ow.Bdy p meth c Z EL1 a0 code maxLocals ret x.name) {h0 : Heap} (O0 : Old Z n0 h0) (hf0 : Ow.Chs Z h0 pa0 pa1 pk0 [px0, px1]) (hn0 : n0 ≤ pa0) (hn1 : n0 ≤ pa1) (hk0 : ¬ (px0 < (0 : Int32))) (hk1 : ¬ ((65535 : Int32) < px0)) (hk2 : ¬ (px1 < (0 : Int32))) (hk3 : ¬ ((65535 : Int32) < px1)) (hk4 : tokP px0) (hk5 : ¬ (tokP px1)) (hc_px0 : nar .char px0 = px0) (hc_px1 : nar .char px1 = px1) :
  Ow.Go p l e room_1 s m args below meth c Z EL1 n0 x.cls (fun v _ _ => v = some (.int 1)) [] h0 20 2048 132 #[.val (.int dl0), .val (.int dl1), .val (.int dl2), .val (.int dl3), .val (.int dl4), .val (.int dl5), .val (.int dl6), .val (.int dl7), .val (.int dl8), .val (.int dl9), .val (.ref pa0), .val (.int 0)] [] := by
 have z0 := Ow.old_le O0
 have lpa0 : (pa0 : Nat) < h0.size := hf0.lt
 have lpa1 : (pa1 : Nat) < h0.size := hf0.ltt
 refine Ow.aload (pc' := 134) B at_132 ?_
 refine Ow.Go.old (fun o1 => ?_)
 refine Ow.callStatic (pc' := 137) (W := 0) (k' := 24) (n' := 2176) (argsL := [(.ref pa0)]) (rest := []) B at_134 (w28 hw) (w29 hw) (w30 hw) (w31 hw) (con_isToken_74 hw G GS (pa0 := pa0) (pa1 := pa1) (px0 := px0) (px1 := px1) (pk0 := pk0) o1 hf0 (by omega) (by omega) (hk0) (hk1) (hk2) (hk3) (hk4) (hk5) hc_px0 hc_px1) pd4 ?_
 intro vq2 h3 S4 q2 zh3
 obtain ⟨rfl, Kh3, c5, rfl⟩ := q2
 refine Ow.Go.nr (S' := []) (st' := [(.int 0)]) ?_
 refine Ow.iload (pc' := 139) B at_137 ?_
 refine Ow.icmpF (pc' := 142) B at_139 (by decide) ?_
 refine Ow.iconst (pc' := 143) (x := 1) B at_142 ?_
 refine Ow.goto (pc' := 147) B at_143 ?_
 exact Ow.retI (S' := []) (t := .boolean) B at_147 (rfl)
set_option maxRecDepth 65536 in
set_option maxHeartbeats 40000000 in
theorem con_isToken_75 (hw : Hw a0 Z) (G : Ow.Glo Z cz sf) (GS : GlS Z) {pa0 : Nat} {pa1 : Nat} {px0 : Int32} {px1 : Int32} {pk0 : ClassId} {h0 : Heap} (O0 : Old Z n0 h0) (hf0 : Ow.Chs Z h0 pa0 pa1 pk0 [px0, px1]) (hn0 : n0 ≤ pa0) (hn1 : n0 ≤ pa1) (hk0 : ¬ (px0 < (0 : Int32))) (hk1 : ¬ ((65535 : Int32) < px0)) (hk2 : ¬ (px1 < (0 : Int32))) (hk3 : ¬ ((65535 : Int32) < px1)) (hk4 : tokP px0) (hk5 : tokP px1) (hc_px0 : nar .char px0 = px0) (hc_px1 : nar .char px1 = px1) :
    Ow.Con l Z EL1 n0 my4 prog_28_method_5_code 4 (Option.some Jvm.ClassFile.FieldType.boolean) [] ({ frames := 5, cells := 4, slots := 128, locals := 66 } : Room) #[(.ref pa0)] [] h0 (fun v h S' => (v = some (.int 1) ∧ Keep h0 h [] ∧ S' = [])) := by
 refine Ow.Con.enter (Ls := #[.val (.ref pa0), .unset, .unset, .unset]) (plainFor_of_name pn2) O0 (hEW hw) (hSA hw) ?_
 intro p e s m below meth c B
 have z0 := Ow.old_le O0
 have lpa0 : (pa0 : Nat) < h0.size := hf0.lt
 have lpa1 : (pa1 : Nat) < h0.size := hf0.ltt
 refine Ow.aloadN (pc' := 1) B e0_0 ?_
 refine Ow.Go.old (fun o1 => ?_)
 refine Ow.callVirtual (pc' := 4) (W := 0) (k' := 0) (n' := 0) (argsL := []) (rest := []) (K := "java/lang/String") B e0_1 (w32 hw) (w33 hw) (w35 hw) (w35 hw) (w34 hw) (w8 hw) (w36 hw) (hf0).1 (con_isEmpty_60 hw G GS (pa0 := pa0) (pa1 := pa1) (px0 := px0) (px1 := px1) (pk0 := pk0) o1 hf0 (by omega) (by omega) hc_px0 hc_px1) pd3 ?_
 intro vq2 h3 S4 q2 zh3
 obtain ⟨rfl, rfl, rfl⟩ := q2
 refine Ow.Go.nr (S' := []) (st' := [(.int 0)]) ?_
 refine Ow.ifT (pc' := 9) B e0_4 (by decide) ?_
 refine Ow.iconst (pc' := 10) (x := 0) B e0_9 ?_
 refine Ow.istoreN (pc' := 11) (Ls' := #[.val (.ref pa0), .val (.int 0), .unset, .unset]) B e0_10 ?_
 refine Ow.iloadN (pc' := 12) B e0_11 ?_
 refine Ow.aloadN (pc' := 13) B e0_12 ?_
 refine Ow.Go.old (fun o5 => ?_)
 refine Ow.callVirtual (pc' := 16) (W := 1) (k' := 0) (n' := 0) (argsL := []) (rest := [(.int 0)]) (K := "java/lang/String") B e0_13 (w51 hw) (w52 hw) (w54 hw) (w54 hw) (w53 hw) (w8 hw) (w55 hw) (hf0).1 (con_length_61 hw G GS (pa0 := pa0) (pa1 := pa1) (px0 := px0) (px1 := px1) (pk0 := pk0) o5 hf0 (by omega) (by omega) hc_px0 hc_px1) pd14 ?_
 intro vq6 h7 S8 q6 zh7
 obtain ⟨rfl, rfl, rfl⟩ := q6
 refine Ow.Go.nr (S' := []) (st' := [(.int 2), (.int 0)]) ?_
 refine Ow.icmpF (pc' := 19) B e0_16 (by decide) ?_
 refine Ow.aloadN (pc' := 20) B e0_19 ?_
 refine Ow.iloadN (pc' := 21) B e0_20 ?_
 refine Ow.Go.old (fun o9 => ?_)
 refine Ow.callVirtual (pc' := 24) (W := 0) (k' := 0) (n' := 0) (argsL := [(.int 0)]) (rest := []) (K := "java/lang/String") B e0_21 (w61 hw) (w62 hw) (w64 hw) (w64 hw) (w63 hw) (w8 hw) (w65 hw) (hf0).1 (con_charAt_67 hw G GS (pa0 := pa0) (pa1 := pa1) (px0 := px0) (px1 := px1) (pk0 := pk0) o9 hf0 (by omega) (by omega) (hk0) (hk1) hc_px0 hc_px1) pd19 ?_
 intro vq10 h11 S12 q10 zh11
 obtain ⟨rfl, rfl, rfl⟩ := q10
 refine Ow.Go.nr (S' := []) (st' := [(.int px0)]) ?_
 refine Ow.istoreN (pc' := 25) (Ls' := #[.val (.ref pa0), .val (.int 0), .val (.int px0), .unset]) B e0_24 ?_
 refine Ow.Go.joinH (α := Int32) (pc1 := 82) (k1 := 2) (n1 := 64) (fun b => #[.val (.ref pa0), .val (.int 0), .val (.int px0), .val (.int b)]) (fun _ => []) ?_ ?_
 ·intro h14 Kh14 b13
  have zh14 := Kh14.1
  refine Ow.iinc (pc' := 85) (y := 1) (Ls' := #[.val (.ref pa0), .val (.int 1), .val (.int px0), .val (.int b13)]) B e0_82 ?_
  refine Ow.goto (pc' := 11) B e0_85 ?_
  refine Ow.iloadN (pc' := 12) B e0_11 ?_
  refine Ow.aloadN (pc' := 13) B e0_12 ?_
  refine Ow.Go.old (fun o15 => ?_)
  have f16 := hf0.keep Kh14 Ow.nin0 Ow.nin0
  refine Ow.callVirtual (pc' := 16) (W := 1) (k' := 2) (n' := 64) (argsL := []) (rest := [(.int 1)]) (K := "java/lang/String") B e0_13 (w51 hw) (w52 hw) (w54 hw) (w54 hw) (w53 hw) (w8 hw) (w55 hw) (f16).1 (con_length_61 hw G GS (pa0 := pa0) (pa1 := pa1) (px0 := px0) (px1 := px1) (pk0 := pk0) o15 f16 (by omega) (by omega) hc_px0 hc_px1) pd14 ?_
  intro vq17 h18 S19 q17 zh18
  obtain ⟨rfl, rfl, rfl⟩ := q17
  refine Ow.Go.nr (S' := []) (st' := [(.int 2), (.int 1)]) ?_
  refine Ow.icmpF (pc' := 19) B e0_16 (by decide) ?_
  refine Ow.aloadN (pc' := 20) B e0_19 ?_
  refine Ow.iloadN (pc' := 21) B e0_20 ?_
  refine Ow.Go.old (fun o20 => ?_)
  refine Ow.callVirtual (pc' := 24) (W := 0) (k' := 2) (n' := 64) (argsL := [(.int 1)]) (rest := []) (K := "java/lang/String") B e0_21 (w61 hw) (w62 hw) (w64 hw) (w64 hw) (w63 hw) (w8 hw) (w65 hw) (f16).1 (con_charAt_73 hw G GS (pa0 := pa0) (pa1 := pa1) (px0 := px0) (px1 := px1) (pk0 := pk0) o20 f16 (by omega) (by omega) (hk2) (hk3) hc_px0 hc_px1) pd19 ?_
  intro vq21 h22 S23 q21 zh22
  obtain ⟨rfl, rfl, rfl⟩ := q21
  refine Ow.Go.nr (S' := []) (st' := [(.int px1)]) ?_
  refine Ow.istoreN (pc' := 25) (Ls' := #[.val (.ref pa0), .val (.int 1), .val (.int px1), .val (.int b13)]) B e0_24 ?_
  refine Ow.Go.joinH (α := Int32) (pc1 := 82) (k1 := 4) (n1 := 128) (fun b => #[.val (.ref pa0), .val (.int 1), .val (.int px1), .val (.int b)]) (fun _ => []) ?_ ?_
  ·intro h25 Kh25 b24
   have zh25 := Kh25.1
   refine Ow.iinc (pc' := 85) (y := 2) (Ls' := #[.val (.ref pa0), .val (.int 2), .val (.int px1), .val (.int b24)]) B e0_82 ?_
   refine Ow.goto (pc' := 11) B e0_85 ?_
   refine Ow.iloadN (pc' := 12) B e0_11 ?_
   refine Ow.aloadN (pc' := 13) B e0_12 ?_
   refine Ow.Go.old (fun o26 => ?_)
   have f27 := f16.keep Kh25 Ow.nin0 Ow.nin0
   refine Ow.callVirtual (pc' := 16) (W := 1) (k' := 4) (n' := 128) (argsL := []) (rest := [(.int 2)]) (K := "java/lang/String") B e0_13 (w51 hw) (w52 hw) (w54 hw) (w54 hw) (w53 hw) (w8 hw) (w55 hw) (f27).1 (con_length_61 hw G GS (pa0 := pa0) (pa1 := pa1) (px0 := px0) (px1 := px1) (pk0 := pk0) o26 f27 (by omega) (by omega) hc_px0 hc_px1) pd14 ?_
   intro vq28 h29 S30 q28 zh29
   obtain ⟨rfl, rfl, rfl⟩ := q28
   refine Ow.Go.nr (S' := []) (st' := [(.int 2), (.int 2)]) ?_
   refine Ow.icmpT (pc' := 88) B e0_16 (by decide) ?_
   refine Ow.iconst (pc' := 89) (x := 1) B e0_88 ?_
   exact Ow.retI (S' := []) (t := .boolean) B e0_89 (⟨rfl, (((Keep.refl _ []).trans Kh14 (fun _ q => nomatch q)).trans Kh25 (fun _ q => nomatch q)), rfl⟩)
  ·intro J31
   by_cases c32 : alP px1
   ·refine blk_al_b hw B (pb := b13) ⟨hk2, hk3⟩ c32 (fun b33 => ?_)
    exact Ow.Go.mono (k' := 4) (n' := 128) (by decide) (by decide) (by simp) (J31 _ (Keep.refl _ []) _)
   ·refine blk_no_b hw B (pb := b13) ⟨hk2, hk3⟩ c32 (fun b34 => ?_)
    refine Ow.ldcText (pc' := 73) (k' := 4) (n' := 128) (nn := 60) (vs := [(.int 33), (.int 35), (.int 36), (.int 37), (.int 38), (.int 39), (.int 42), (.int 43), (.int 45), (.int 46), (.int 94), (.int 95), (.int 96), (.int 124), (.int 126)]) (z := 15) B e0_71 (w83 hw) (by decide) ⟨by decide, by decide⟩ (by decide) (by decide) ?_
    intro h36 a35 t37 kt37 Kh36 Ea35 Ca35 Va35 At37 Na35
    have zh36 := Kh36.1
    have la35 : (a35 : Nat) < h36.size := Ea35.lt
    have lt37 : (t37 : Nat) < h36.size := At37.lt
    refine Ow.iloadN (pc' := 74) B e0_73 ?_
    refine Ow.Go.old (fun o38 => ?_)
    refine Ow.callVirtual (pc' := 77) (W := 0) (k' := 4) (n' := 128) (argsL := [(.int px1)]) (rest := []) (K := "java/lang/String") B e0_74 (w84 hw) (w85 hw) (w87 hw) (w87 hw) (w86 hw) (w8 hw) (w88 hw) Ea35 (con_indexOf_43 hw G GS (pa0 := a35) (pa1 := t37) (px0 := px1) (pk0 := kt37) o38 Ea35 Ca35 Va35 At37 (hk2) hc_px1) pd6 ?_
    intro vq39 h40 S41 q39 zh40
    rcases q39 with q39 | q39
    ·obtain ⟨y42, rfl, rfl, c43, c44, rfl⟩ := q39
     refine Ow.Go.nr (S' := []) (st' := [(.int y42)]) ?_
     refine Ow.ifF (pc' := 80) B e0_77 (tlt (c44)).2.1 ?_
     exact absurd (hk5) (fun q => q.elim (fun q => c32 q) (c43))
    ·obtain ⟨y45, rfl, rfl, c46, c47, rfl⟩ := q39
     refine Ow.Go.nr (S' := []) (st' := [(.int y45)]) ?_
     refine Ow.ifT (pc' := 82) B e0_77 (flt (c47)).2.1 ?_
     exact Ow.Go.mono (k' := 4) (n' := 128) (by decide) (by decide) (by simp) (J31 _ ((Keep.refl _ []).trans Kh36 (fun _ q => nomatch q)) _)
 ·intro J48
  by_cases c49 : alP px0
  ·refine blk_al_u hw B (pb := 0) ⟨hk0, hk1⟩ c49 (fun b50 => ?_)
   exact Ow.Go.mono (k' := 2) (n' := 64) (by decide) (by decide) (by simp) (J48 _ (Keep.refl _ []) _)
  ·refine blk_no_u hw B (pb := 0) ⟨hk0, hk1⟩ c49 (fun b51 => ?_)
   refine Ow.ldcText (pc' := 73) (k' := 2) (n' := 64) (nn := 60) (vs := [(.int 33), (.int 35), (.int 36), (.int 37), (.int 38), (.int 39), (.int 42), (.int 43), (.int 45), (.int 46), (.int 94), (.int 95), (.int 96), (.int 124), (.int 126)]) (z := 15) B e0_71 (w83 hw) (by decide) ⟨by decide, by decide⟩ (by decide) (by decide) ?_
   intro h53 a52 t54 kt54 Kh53 Ea52 Ca52 Va52 At54 Na52
   have zh53 := Kh53.1
   have la52 : (a52 : Nat) < h53.size := Ea52.lt
   have lt54 : (t54 : Nat) < h53.size := At54.lt
   refine Ow.iloadN (pc' := 74) B e0_73 ?_
   refine Ow.Go.old (fun o55 => ?_)
   refine Ow.callVirtual (pc' := 77) (W := 0) (k' := 2) (n' := 64) (argsL := [(.int px0)]) (rest := []) (K := "java/lang/String") B e0_74 (w84 hw) (w85 hw) (w87 hw) (w87 hw) (w86 hw) (w8 hw) (w88 hw) Ea52 (con_indexOf_43 hw G GS (pa0 := a52) (pa1 := t54) (px0 := px0) (pk0 := kt54) o55 Ea52 Ca52 Va52 At54 (hk0) hc_px0) pd6 ?_
   intro vq56 h57 S58 q56 zh57
   rcases q56 with q56 | q56
   ·obtain ⟨y59, rfl, rfl, c60, c61, rfl⟩ := q56
    refine Ow.Go.nr (S' := []) (st' := [(.int y59)]) ?_
    refine Ow.ifF (pc' := 80) B e0_77 (tlt (c61)).2.1 ?_
    exact absurd (hk4) (fun q => q.elim (fun q => c49 q) (c60))
   ·obtain ⟨y62, rfl, rfl, c63, c64, rfl⟩ := q56
    refine Ow.Go.nr (S' := []) (st' := [(.int y62)]) ?_
    refine Ow.ifT (pc' := 82) B e0_77 (flt (c64)).2.1 ?_
    exact Ow.Go.mono (k' := 2) (n' := 64) (by decide) (by decide) (by simp) (J48 _ ((Keep.refl _ []).trans Kh53 (fun _ q => nomatch q)) _)
set_option maxRecDepth 65536 in
set_option maxHeartbeats 40000000 in
theorem seg132_6 (hw : Hw a0 Z) (G : Ow.Glo Z cz sf) (GS : GlS Z) {pa0 : Nat} {pa1 : Nat} {px0 : Int32} {px1 : Int32} {pk0 : ClassId} {dl0 : Int32} {dl1 : Int32} {dl2 : Int32} {dl3 : Int32} {dl4 : Int32} {dl5 : Int32} {dl6 : Int32} {dl7 : Int32} {dl8 : Int32} {dl9 : Int32} {p : Program} {e : Env} {s : State} {m : MethodId} {args : Array Value} {below : List Frame} {meth : Method} {c : ClassFile.Code} (B : Ow.Bdy p meth c Z EL1 a0 code maxLocals ret x.name) {h0 : Heap} (O0 : Old Z n0 h0) (hf0 : Ow.Chs Z h0 pa0 pa1 pk0 [px0, px1]) (hn0 : n0 ≤ pa0) (hn1 : n0 ≤ pa1) (hk0 : ¬ (px0 < (0 : Int32))) (hk1 : ¬ ((65535 : Int32) < px0)) (hk2 : ¬ (px1 < (0 : Int32))) (hk3 : ¬ ((65535 : Int32) < px1)) (hk4 : tokP px0) (hk5 : tokP px1) (hc_px0 : nar .char px0 = px0) (hc_px1 : nar .char px1 = px1) :
  Ow.Go p l e room_1 s m args below meth c Z EL1 n0 x.cls (fun v _ _ => v = some (.int 1)) [] h0 20 2048 132 #[.val (.int dl0), .val (.int dl1), .val (.int dl2), .val (.int dl3), .val (.int dl4), .val (.int dl5), .val (.int dl6), .val (.int dl7), .val (.int dl8), .val (.int dl9), .val (.ref pa0), .val (.int 1)] [] := by
 have z0 := Ow.old_le O0
 have lpa0 : (pa0 : Nat) < h0.size := hf0.lt
 have lpa1 : (pa1 : Nat) < h0.size := hf0.ltt
 refine Ow.aload (pc' := 134) B at_132 ?_
 refine Ow.Go.old (fun o1 => ?_)
 refine Ow.callStatic (pc' := 137) (W := 0) (k' := 24) (n' := 2176) (argsL := [(.ref pa0)]) (rest := []) B at_134 (w28 hw) (w29 hw) (w30 hw) (w31 hw) (con_isToken_75 hw G GS (pa0 := pa0) (pa1 := pa1) (px0 := px0) (px1 := px1) (pk0 := pk0) o1 hf0 (by omega) (by omega) (hk0) (hk1) (hk2) (hk3) (hk4) (hk5) hc_px0 hc_px1) pd4 ?_
 intro vq2 h3 S4 q2 zh3
 obtain ⟨rfl, Kh3, rfl⟩ := q2
 refine Ow.Go.nr (S' := []) (st' := [(.int 1)]) ?_
 refine Ow.iload (pc' := 139) B at_137 ?_
 refine Ow.icmpF (pc' := 142) B at_139 (by decide) ?_
 refine Ow.iconst (pc' := 143) (x := 1) B at_142 ?_
 refine Ow.goto (pc' := 147) B at_143 ?_
 exact Ow.retI (S' := []) (t := .boolean) B at_147 (rfl)
set_option maxRecDepth 65536 in
set_option maxHeartbeats 40000000 in
theorem con_compress_76 (hw : Hw a0 Z) (G : Ow.Glo Z cz sf) (GS : GlS Z) {pa0 : Nat} {pa1 : Nat} {px0 : Int32} {px1 : Int32} {px2 : Int32} {pk0 : ClassId} {pk1 : ClassId} {h0 : Heap} (O0 : Old Z n0 h0) (hf0 : Arv Z h0 pa0 pk0 .char (3 : Int32) [(.int px0), (.int px1), (.int px2)] (.int 0)) (hf1 : Arv Z h0 pa1 pk1 .byte (3 : Int32) [(.int 0), (.int 0), (.int 0)] (.int 0)) (hn0 : n0 ≤ pa0) (hn1 : n0 ≤ pa1) (hd0 : pa0 ≠ pa1) (hc_px0 : nar .char px0 = px0) (hc_px1 : nar .char px1 = px1) (hc_px2 : nar .char px2 = px2) :
    Ow.Con l Z EL1 n0 my5 jdk_52_method_21_code 7 (Option.some Jvm.ClassFile.FieldType.int) [] ({ frames := 0, cells := 0, slots := 0, locals := 0 } : Room) #[(.ref pa0), (.int 0), (.ref pa1), (.int 0), (.int 3)] [pa1] h0 (fun v h S' => (v = some (.int 0) ∧ h = h0 ∧ (255 : Int32) < px0 ∧ S' = []) ∨ (v = some (.int 1) ∧ Keep h0 h [pa1] ∧ ¬ ((255 : Int32) < px0) ∧ (255 : Int32) < px1 ∧ Arv Z h pa1 pk1 .byte (3 : Int32) [(.int px0.toInt8.toInt32), (.int 0), (.int 0)] (.int 0) ∧ S' = []) ∨ (v = some (.int 2) ∧ Keep h0 h [pa1] ∧ ¬ ((255 : Int32) < px0) ∧ ¬ ((255 : Int32) < px1) ∧ (255 : Int32) < px2 ∧ Arv Z h pa1 pk1 .byte (3 : Int32) [(.int px0.toInt8.toInt32), (.int px1.toInt8.toInt32), (.int 0)] (.int 0) ∧ S' = []) ∨ (v = some (.int 3) ∧ Keep h0 h [pa1] ∧ ¬ ((255 : Int32) < px0) ∧ ¬ ((255 : Int32) < px1) ∧ ¬ ((255 : Int32) < px2) ∧ Arv Z h pa1 pk1 .byte (3 : Int32) [(.int px0.toInt8.toInt32), (.int px1.toInt8.toInt32), (.int px2.toInt8.toInt32)] (.int 0) ∧ S' = [])) := by
 refine Ow.Con.enter (Ls := #[.val (.ref pa0), .val (.int 0), .val (.ref pa1), .val (.int 0), .val (.int 3), .unset, .unset]) (plainFor_of_name pn3) O0 (hEW hw) (hSA hw) ?_
 intro p e s m below meth c B
 have z0 := Ow.old_le O0
 have lpa0 : (pa0 : Nat) < h0.size := hf0.lt
 have lpa1 : (pa1 : Nat) < h0.size := hf1.lt
 refine Ow.iconst (pc' := 1) (x := 0) B e6_0 ?_
 refine Ow.istore (pc' := 3) (Ls' := #[.val (.ref pa0), .val (.int 0), .val (.ref pa1), .val (.int 0), .val (.int 3), .val (.int 0), .unset]) B e6_1 ?_
 refine Ow.iload (pc' := 5) B e6_3 ?_
 refine Ow.iload (pc' := 7) B e6_5 ?_
 refine Ow.icmpF (pc' := 10) B e6_7 (by decide) ?_
 refine Ow.aloadN (pc' := 11) B e6_10 ?_
 refine Ow.iloadN (pc' := 12) B e6_11 ?_
 refine Ow.caload (pc' := 13) B e6_12 hf0 ⟨by decide, by decide⟩ rfl ?_
 refine Ow.istore (pc' := 15) (Ls' := #[.val (.ref pa0), .val (.int 0), .val (.ref pa1), .val (.int 0), .val (.int 3), .val (.int 0), .val (.int px0)]) B e6_13 ?_
 refine Ow.iload (pc' := 17) B e6_15 ?_
 refine Ow.sipush (pc' := 20) (x := 255) B e6_17 ?_
 by_cases c1 : (255 : Int32) < px0
 ·refine Ow.icmpF (pc' := 23) B e6_20 (tlt c1).2.2.2 ?_
  refine Ow.iload (pc' := 25) B e6_23 ?_
  exact Ow.retI (S' := []) (t := .int) B e6_25 (Or.inl (⟨rfl, rfl, c1, rfl⟩))
 ·refine Ow.icmpT (pc' := 26) B e6_20 (flt c1).2.2.2 ?_
  refine Ow.aloadN (pc' := 27) B e6_26 ?_
  refine Ow.iloadN (pc' := 28) B e6_27 ?_
  refine Ow.iload (pc' := 30) B e6_28 ?_
  refine Ow.i2b (pc' := 31) (z := px0.toInt8.toInt32) B e6_30 ?_
  refine Ow.bastore (pc' := 32) (i := 0) B e6_31 hf1 ⟨by decide, by decide⟩ (by simp) ?_
  intro h2 Kh2 V0h2
  have zh2 := Kh2.1
  have V3 : Arv Z h2 pa1 pk1 .byte (3 : Int32) [(.int px0.toInt8.toInt32), (.int 0), (.int 0)] (.int 0) := (by have e0 := V0h2; rw [show nar .byte px0.toInt8.toInt32 = px0.toInt8.toInt32 from Ow.nar_b _] at e0; exact e0)
  refine Ow.iinc (pc' := 35) (y := 1) (Ls' := #[.val (.ref pa0), .val (.int 1), .val (.ref pa1), .val (.int 0), .val (.int 3), .val (.int 0), .val (.int px0)]) B e6_32 ?_
  refine Ow.iinc (pc' := 38) (y := 1) (Ls' := #[.val (.ref pa0), .val (.int 1), .val (.ref pa1), .val (.int 1), .val (.int 3), .val (.int 0), .val (.int px0)]) B e6_35 ?_
  refine Ow.iinc (pc' := 41) (y := 1) (Ls' := #[.val (.ref pa0), .val (.int 1), .val (.ref pa1), .val (.int 1), .val (.int 3), .val (.int 1), .val (.int px0)]) B e6_38 ?_
  refine Ow.goto (pc' := 3) B e6_41 ?_
  refine Ow.iload (pc' := 5) B e6_3 ?_
  refine Ow.iload (pc' := 7) B e6_5 ?_
  refine Ow.icmpF (pc' := 10) B e6_7 (by decide) ?_
  refine Ow.aloadN (pc' := 11) B e6_10 ?_
  refine Ow.iloadN (pc' := 12) B e6_11 ?_
  have f4 := hf0.keep Kh2 (Ow.ninS (by omega) Ow.nin0)
  refine Ow.caload (pc' := 13) B e6_12 f4 ⟨by decide, by decide⟩ rfl ?_
  refine Ow.istore (pc' := 15) (Ls' := #[.val (.ref pa0), .val (.int 1), .val (.ref pa1), .val (.int 1), .val (.int 3), .val (.int 1), .val (.int px1)]) B e6_13 ?_
  refine Ow.iload (pc' := 17) B e6_15 ?_
  refine Ow.sipush (pc' := 20) (x := 255) B e6_17 ?_
  by_cases c5 : (255 : Int32) < px1
  ·refine Ow.icmpF (pc' := 23) B e6_20 (tlt c5).2.2.2 ?_
   refine Ow.iload (pc' := 25) B e6_23 ?_
   exact Ow.retI (S' := []) (t := .int) B e6_25 (Or.inr (Or.inl (⟨rfl, ((Keep.refl _ [pa1]).trans Kh2 (allS (Or.inl (by simp)) all0)), c1, c5, V3, rfl⟩)))
  ·refine Ow.icmpT (pc' := 26) B e6_20 (flt c5).2.2.2 ?_
   refine Ow.aloadN (pc' := 27) B e6_26 ?_
   refine Ow.iloadN (pc' := 28) B e6_27 ?_
   refine Ow.iload (pc' := 30) B e6_28 ?_
   refine Ow.i2b (pc' := 31) (z := px1.toInt8.toInt32) B e6_30 ?_
   refine Ow.bastore (pc' := 32) (i := 1) B e6_31 V3 ⟨by decide, by decide⟩ (by simp) ?_
   intro h6 Kh6 V0h6
   have zh6 := Kh6.1
   have V7 : Arv Z h6 pa1 pk1 .byte (3 : Int32) [(.int px0.toInt8.toInt32), (.int px1.toInt8.toInt32), (.int 0)] (.int 0) := (by have e0 := V0h6; rw [show nar .byte px1.toInt8.toInt32 = px1.toInt8.toInt32 from Ow.nar_b _] at e0; exact e0)
   refine Ow.iinc (pc' := 35) (y := 2) (Ls' := #[.val (.ref pa0), .val (.int 2), .val (.ref pa1), .val (.int 1), .val (.int 3), .val (.int 1), .val (.int px1)]) B e6_32 ?_
   refine Ow.iinc (pc' := 38) (y := 2) (Ls' := #[.val (.ref pa0), .val (.int 2), .val (.ref pa1), .val (.int 2), .val (.int 3), .val (.int 1), .val (.int px1)]) B e6_35 ?_
   refine Ow.iinc (pc' := 41) (y := 2) (Ls' := #[.val (.ref pa0), .val (.int 2), .val (.ref pa1), .val (.int 2), .val (.int 3), .val (.int 2), .val (.int px1)]) B e6_38 ?_
   refine Ow.goto (pc' := 3) B e6_41 ?_
   refine Ow.iload (pc' := 5) B e6_3 ?_
   refine Ow.iload (pc' := 7) B e6_5 ?_
   refine Ow.icmpF (pc' := 10) B e6_7 (by decide) ?_
   refine Ow.aloadN (pc' := 11) B e6_10 ?_
   refine Ow.iloadN (pc' := 12) B e6_11 ?_
   have f8 := f4.keep Kh6 (Ow.ninS (by omega) Ow.nin0)
   refine Ow.caload (pc' := 13) B e6_12 f8 ⟨by decide, by decide⟩ rfl ?_
   refine Ow.istore (pc' := 15) (Ls' := #[.val (.ref pa0), .val (.int 2), .val (.ref pa1), .val (.int 2), .val (.int 3), .val (.int 2), .val (.int px2)]) B e6_13 ?_
   refine Ow.iload (pc' := 17) B e6_15 ?_
   refine Ow.sipush (pc' := 20) (x := 255) B e6_17 ?_
   by_cases c9 : (255 : Int32) < px2
   ·refine Ow.icmpF (pc' := 23) B e6_20 (tlt c9).2.2.2 ?_
    refine Ow.iload (pc' := 25) B e6_23 ?_
    exact Ow.retI (S' := []) (t := .int) B e6_25 (Or.inr (Or.inr (Or.inl (⟨rfl, (((Keep.refl _ [pa1]).trans Kh2 (allS (Or.inl (by simp)) all0)).trans Kh6 (allS (Or.inl (by simp)) all0)), c1, c5, c9, V7, rfl⟩))))
   ·refine Ow.icmpT (pc' := 26) B e6_20 (flt c9).2.2.2 ?_
    refine Ow.aloadN (pc' := 27) B e6_26 ?_
    refine Ow.iloadN (pc' := 28) B e6_27 ?_
    refine Ow.iload (pc' := 30) B e6_28 ?_
    refine Ow.i2b (pc' := 31) (z := px2.toInt8.toInt32) B e6_30 ?_
    refine Ow.bastore (pc' := 32) (i := 2) B e6_31 V7 ⟨by decide, by decide⟩ (by simp) ?_
    intro h10 Kh10 V0h10
    have zh10 := Kh10.1
    have V11 : Arv Z h10 pa1 pk1 .byte (3 : Int32) [(.int px0.toInt8.toInt32), (.int px1.toInt8.toInt32), (.int px2.toInt8.toInt32)] (.int 0) := (by have e0 := V0h10; rw [show nar .byte px2.toInt8.toInt32 = px2.toInt8.toInt32 from Ow.nar_b _] at e0; exact e0)
    refine Ow.iinc (pc' := 35) (y := 3) (Ls' := #[.val (.ref pa0), .val (.int 3), .val (.ref pa1), .val (.int 2), .val (.int 3), .val (.int 2), .val (.int px2)]) B e6_32 ?_
    refine Ow.iinc (pc' := 38) (y := 3) (Ls' := #[.val (.ref pa0), .val (.int 3), .val (.ref pa1), .val (.int 3), .val (.int 3), .val (.int 2), .val (.int px2)]) B e6_35 ?_
    refine Ow.iinc (pc' := 41) (y := 3) (Ls' := #[.val (.ref pa0), .val (.int 3), .val (.ref pa1), .val (.int 3), .val (.int 3), .val (.int 3), .val (.int px2)]) B e6_38 ?_
    refine Ow.goto (pc' := 3) B e6_41 ?_
    refine Ow.iload (pc' := 5) B e6_3 ?_
    refine Ow.iload (pc' := 7) B e6_5 ?_
    refine Ow.icmpT (pc' := 44) B e6_7 (by decide) ?_
    refine Ow.iload (pc' := 46) B e6_44 ?_
    exact Ow.retI (S' := []) (t := .int) B e6_46 (Or.inr (Or.inr (Or.inr (⟨rfl, ((((Keep.refl _ [pa1]).trans Kh2 (allS (Or.inl (by simp)) all0)).trans Kh6 (allS (Or.inl (by simp)) all0)).trans Kh10 (allS (Or.inl (by simp)) all0)), c1, c5, c9, V11, rfl⟩))))
set_option maxRecDepth 65536 in
set_option maxHeartbeats 40000000 in
theorem con_newBytesLength_77 (hw : Hw a0 Z) (G : Ow.Glo Z cz sf) (GS : GlS Z) {h0 : Heap} (O0 : Old Z n0 h0) :
    Ow.Con l Z EL1 n0 my6 jdk_52_method_3_code 1 (Option.some Jvm.ClassFile.FieldType.int) [] ({ frames := 0, cells := 0, slots := 0, locals := 0 } : Room) #[(.int 3)] [] h0 (fun v h S' => (v = some (.int 6) ∧ h = h0 ∧ S' = [])) := by
 refine Ow.Con.enter (Ls := #[.val (.int 3)]) (plainFor_of_name pn3) O0 (hEW hw) (hSA hw) ?_
 intro p e s m below meth c B
 have z0 := Ow.old_le O0
 refine Ow.iloadN (pc' := 1) B e9_0 ?_
 refine Ow.ifT (pc' := 12) B e9_1 (by decide) ?_
 refine Ow.iloadN (pc' := 13) B e9_12 ?_
 refine Ow.ldcInt (pc' := 15) B e9_13 (w123 hw) ?_
 refine Ow.icmpT (pc' := 55) B e9_15 (by decide) ?_
 refine Ow.iloadN (pc' := 56) B e9_55 ?_
 refine Ow.iconst (pc' := 57) (x := 1) B e9_56 ?_
 refine Ow.ishl (pc' := 58) (z := 6) B e9_57 ?_
 exact Ow.retI (S' := []) (t := .int) B e9_58 (⟨rfl, rfl, rfl⟩)
set_option maxRecDepth 65536 in
set_option maxHeartbeats 40000000 in
theorem con_newBytesFor_78 (hw : Hw a0 Z) (G : Ow.Glo Z cz sf) (GS : GlS Z) {h0 : Heap} (O0 : Old Z n0 h0) :
    Ow.Con l Z EL1 n0 my7 jdk_52_method_2_code 1 (Option.some (Jvm.ClassFile.FieldType.array Jvm.ClassFile.FieldType.byte)) [] ({ frames := 1, cells := 1, slots := 6, locals := 12 } : Room) #[(.int 3)] [] h0 (fun v h S' => (∃ r0 : Nat, ∃ k0 : ClassId, v = some (.ref r0) ∧ Keep h0 h [] ∧ h0.size ≤ r0 ∧ Arv Z h r0 k0 .byte (6 : Int32) [(.int 0), (.int 0), (.int 0), (.int 0), (.int 0), (.int 0)] (.int 0) ∧ S' = [r0])) := by
 refine Ow.Con.enter (Ls := #[.val (.int 3)]) (plainFor_of_name pn3) O0 (hEW hw) (hSA hw) ?_
 intro p e s m below meth c B
 have z0 := Ow.old_le O0
 refine Ow.iloadN (pc' := 1) B e8_0 ?_
 refine Ow.Go.old (fun o1 => ?_)
 refine Ow.callStatic (pc' := 4) (W := 0) (k' := 0) (n' := 0) (argsL := [(.int 3)]) (rest := []) B e8_1 (w120 hw) (w121 hw) (w40 hw) (w122 hw) (con_newBytesLength_77 hw G GS o1) pd6 ?_
 intro vq2 h3 S4 q2 zh3
 obtain ⟨rfl, rfl, rfl⟩ := q2
 refine Ow.Go.nr (S' := []) (st' := [(.int 6)]) ?_
 refine Ow.newArr (pc' := 6) (k' := 1) (n' := 6) (cap := 6) B e8_4 (w21 hw) (by decide) (by decide) ?_
 intro h6 a5 ka5 ga5 ba5 Kh6 V0a5
 have zh6 := Kh6.1
 have la5 : (a5 : Nat) < h6.size := V0a5.lt
 have Va5 : Arv Z h6 a5 ka5 .byte (6 : Int32) [(.int 0), (.int 0), (.int 0), (.int 0), (.int 0), (.int 0)] (.int 0) := V0a5.pad (pad_rep [] (.int 0) 6)
 exact Ow.retA (S' := [a5]) (t := (.array .byte)) B e8_6 (⟨a5, ka5, rfl, ((Keep.refl _ []).trans Kh6 (fun _ q => nomatch q)), (by omega), Va5, rfl⟩)
set_option maxRecDepth 65536 in
set_option maxHeartbeats 40000000 in
theorem con_putChar_79 (hw : Hw a0 Z) (G : Ow.Glo Z cz sf) (GS : GlS Z) {pa0 : Nat} {px0 : Int32} {pk0 : ClassId} {h0 : Heap} (O0 : Old Z n0 h0) (hf0 : Arv Z h0 pa0 pk0 .byte (6 : Int32) [(.int 0), (.int 0), (.int 0), (.int 0), (.int 0), (.int 0)] (.int 0)) (hn0 : n0 ≤ pa0) (hc_px0 : nar .char px0 = px0) :
    Ow.Con l Z EL1 n0 my8 jdk_52_method_4_code 3 (Option.none : Option Jvm.ClassFile.FieldType) [] ({ frames := 0, cells := 0, slots := 0, locals := 0 } : Room) #[(.ref pa0), (.int 0), (.int px0)] [pa0] h0 (fun v h S' => (v = none ∧ Keep h0 h [pa0] ∧ Arv Z h pa0 pk0 .byte (6 : Int32) [(.int px0.toInt8.toInt32), (.int (px0 >>> ((8 : Int32) &&& 31)).toInt8.toInt32), (.int 0), (.int 0), (.int 0), (.int 0)] (.int 0) ∧ S' = [])) := by
 refine Ow.Con.enter (Ls := #[.val (.ref pa0), .val (.int 0), .val (.int px0)]) (plainFor_of_name pn3) O0 (hEW hw) (hSA hw) ?_
 intro p e s m below meth c B
 have z0 := Ow.old_le O0
 have lpa0 : (pa0 : Nat) < h0.size := hf0.lt
 refine Ow.getstatic (pc' := 3) B e10_0 (w127 hw) Via.refl GS.1 ?_
 refine Ow.ifT (pc' := 28) B e10_3 (by decide) ?_
 refine Ow.iloadN (pc' := 29) B e10_28 ?_
 refine Ow.iconst (pc' := 30) (x := 1) B e10_29 ?_
 refine Ow.ishl (pc' := 31) (z := 0) B e10_30 ?_
 refine Ow.istoreN (pc' := 32) (Ls' := #[.val (.ref pa0), .val (.int 0), .val (.int px0)]) B e10_31 ?_
 refine Ow.aloadN (pc' := 33) B e10_32 ?_
 refine Ow.iloadN (pc' := 34) B e10_33 ?_
 refine Ow.iinc (pc' := 37) (y := 1) (Ls' := #[.val (.ref pa0), .val (.int 1), .val (.int px0)]) B e10_34 ?_
 refine Ow.iloadN (pc' := 38) B e10_37 ?_
 refine Ow.getstatic (pc' := 41) B e10_38 (w128 hw) Via.refl GS.2.1 ?_
 refine Ow.ishr (pc' := 42) (z := px0) (hz := (Ow.shr0 _)) B e10_41 ?_
 refine Ow.i2b (pc' := 43) (z := px0.toInt8.toInt32) B e10_42 ?_
 refine Ow.bastore (pc' := 44) (i := 0) B e10_43 hf0 ⟨by decide, by decide⟩ (by simp) ?_
 intro h1 Kh1 V0h1
 have zh1 := Kh1.1
 have V2 : Arv Z h1 pa0 pk0 .byte (6 : Int32) [(.int px0.toInt8.toInt32), (.int 0), (.int 0), (.int 0), (.int 0), (.int 0)] (.int 0) := (by have e0 := V0h1; rw [show nar .byte px0.toInt8.toInt32 = px0.toInt8.toInt32 from Ow.nar_b _] at e0; exact e0)
 refine Ow.aloadN (pc' := 45) B e10_44 ?_
 refine Ow.iloadN (pc' := 46) B e10_45 ?_
 refine Ow.iloadN (pc' := 47) B e10_46 ?_
 refine Ow.getstatic (pc' := 50) B e10_47 (w129 hw) Via.refl GS.2.2 ?_
 refine Ow.ishr (pc' := 51) (z := (px0 >>> ((8 : Int32) &&& 31))) B e10_50 ?_
 refine Ow.i2b (pc' := 52) (z := (px0 >>> ((8 : Int32) &&& 31)).toInt8.toInt32) B e10_51 ?_
 refine Ow.bastore (pc' := 53) (i := 1) B e10_52 V2 ⟨by decide, by decide⟩ (by simp) ?_
 intro h3 Kh3 V0h3
 have zh3 := Kh3.1
 have V4 : Arv Z h3 pa0 pk0 .byte (6 : Int32) [(.int px0.toInt8.toInt32), (.int (px0 >>> ((8 : Int32) &&& 31)).toInt8.toInt32), (.int 0), (.int 0), (.int 0), (.int 0)] (.int 0) := (by have e0 := V0h3; rw [show nar .byte (px0 >>> ((8 : Int32) &&& 31)).toInt8.toInt32 = (px0 >>> ((8 : Int32) &&& 31)).toInt8.toInt32 from Ow.nar_b _] at e0; exact e0)
 exact Ow.retV (S' := []) B e10_53 (⟨rfl, (((Keep.refl _ [pa0]).trans Kh1 (allS (Or.inl (by simp)) all0)).trans Kh3 (allS (Or.inl (by simp)) all0)), V4, rfl⟩)
set_option maxRecDepth 65536 in
set_option maxHeartbeats 40000000 in
theorem con_putChar_80 (hw : Hw a0 Z) (G : Ow.Glo Z cz sf) (GS : GlS Z) {pa0 : Nat} {px0 : Int32} {px1 : Int32} {pk0 : ClassId} {h0 : Heap} (O0 : Old Z n0 h0) (hf0 : Arv Z h0 pa0 pk0 .byte (6 : Int32) [(.int px1.toInt8.toInt32), (.int (px1 >>> ((8 : Int32) &&& 31)).toInt8.toInt32), (.int 0), (.int 0), (.int 0), (.int 0)] (.int 0)) (hn0 : n0 ≤ pa0) (hc_px0 : nar .char px0 = px0) (hc_px1 : nar .char px1 = px1) :
    Ow.Con l Z EL1 n0 my8 jdk_52_method_4_code 3 (Option.none : Option Jvm.ClassFile.FieldType) [] ({ frames := 0, cells := 0, slots := 0, locals := 0 } : Room) #[(.ref pa0), (.int 1), (.int px0)] [pa0] h0 (fun v h S' => (v = none ∧ Keep h0 h [pa0] ∧ Arv Z h pa0 pk0 .byte (6 : Int32) [(.int px1.toInt8.toInt32), (.int (px1 >>> ((8 : Int32) &&& 31)).toInt8.toInt32), (.int px0.toInt8.toInt32), (.int (px0 >>> ((8 : Int32) &&& 31)).toInt8.toInt32), (.int 0), (.int 0)] (.int 0) ∧ S' = [])) := by
 refine Ow.Con.enter (Ls := #[.val (.ref pa0), .val (.int 1), .val (.int px0)]) (plainFor_of_name pn3) O0 (hEW hw) (hSA hw) ?_
 intro p e s m below meth c B
 have z0 := Ow.old_le O0
 have lpa0 : (pa0 : Nat) < h0.size := hf0.lt
 refine Ow.getstatic (pc' := 3) B e10_0 (w127 hw) Via.refl GS.1 ?_
 refine Ow.ifT (pc' := 28) B e10_3 (by decide) ?_
 refine Ow.iloadN (pc' := 29) B e10_28 ?_
 refine Ow.iconst (pc' := 30) (x := 1) B e10_29 ?_
 refine Ow.ishl (pc' := 31) (z := 2) B e10_30 ?_
 refine Ow.istoreN (pc' := 32) (Ls' := #[.val (.ref pa0), .val (.int 2), .val (.int px0)]) B e10_31 ?_
 refine Ow.aloadN (pc' := 33) B e10_32 ?_
 refine Ow.iloadN (pc' := 34) B e10_33 ?_
 refine Ow.iinc (pc' := 37) (y := 3) (Ls' := #[.val (.ref pa0), .val (.int 3), .val (.int px0)]) B e10_34 ?_
 refine Ow.iloadN (pc' := 38) B e10_37 ?_
 refine Ow.getstatic (pc' := 41) B e10_38 (w128 hw) Via.refl GS.2.1 ?_
 refine Ow.ishr (pc' := 42) (z := px0) (hz := (Ow.shr0 _)) B e10_41 ?_
 refine Ow.i2b (pc' := 43) (z := px0.toInt8.toInt32) B e10_42 ?_
 refine Ow.bastore (pc' := 44) (i := 2) B e10_43 hf0 ⟨by decide, by decide⟩ (by simp) ?_
 intro h1 Kh1 V0h1
 have zh1 := Kh1.1
 have V2 : Arv Z h1 pa0 pk0 .byte (6 : Int32) [(.int px1.toInt8.toInt32), (.int (px1 >>> ((8 : Int32) &&& 31)).toInt8.toInt32), (.int px0.toInt8.toInt32), (.int 0), (.int 0), (.int 0)] (.int 0) := (by have e0 := V0h1; rw [show nar .byte px0.toInt8.toInt32 = px0.toInt8.toInt32 from Ow.nar_b _] at e0; exact e0)
 refine Ow.aloadN (pc' := 45) B e10_44 ?_
 refine Ow.iloadN (pc' := 46) B e10_45 ?_
 refine Ow.iloadN (pc' := 47) B e10_46 ?_
 refine Ow.getstatic (pc' := 50) B e10_47 (w129 hw) Via.refl GS.2.2 ?_
 refine Ow.ishr (pc' := 51) (z := (px0 >>> ((8 : Int32) &&& 31))) B e10_50 ?_
 refine Ow.i2b (pc' := 52) (z := (px0 >>> ((8 : Int32) &&& 31)).toInt8.toInt32) B e10_51 ?_
 refine Ow.bastore (pc' := 53) (i := 3) B e10_52 V2 ⟨by decide, by decide⟩ (by simp) ?_
 intro h3 Kh3 V0h3
 have zh3 := Kh3.1
 have V4 : Arv Z h3 pa0 pk0 .byte (6 : Int32) [(.int px1.toInt8.toInt32), (.int (px1 >>> ((8 : Int32) &&& 31)).toInt8.toInt32), (.int px0.toInt8.toInt32), (.int (px0 >>> ((8 : Int32) &&& 31)).toInt8.toInt32), (.int 0), (.int 0)] (.int 0) := (by have e0 := V0h3; rw [show nar .byte (px0 >>> ((8 : Int32) &&& 31)).toInt8.toInt32 = (px0 >>> ((8 : Int32) &&& 31)).toInt8.toInt32 from Ow.nar_b _] at e0; exact e0)
 exact Ow.retV (S' := []) B e10_53 (⟨rfl, (((Keep.refl _ [pa0]).trans Kh1 (allS (Or.inl (by simp)) all0)).trans Kh3 (allS (Or.inl (by simp)) all0)), V4, rfl⟩)
set_option maxRecDepth 65536 in
set_option maxHeartbeats 40000000 in
theorem con_putChar_81 (hw : Hw a0 Z) (G : Ow.Glo Z cz sf) (GS : GlS Z) {pa0 : Nat} {px0 : Int32} {px1 : Int32} {px2 : Int32} {pk0 : ClassId} {h0 : Heap} (O0 : Old Z n0 h0) (hf0 : Arv Z h0 pa0 pk0 .byte (6 : Int32) [(.int px1.toInt8.toInt32), (.int (px1 >>> ((8 : Int32) &&& 31)).toInt8.toInt32), (.int px2.toInt8.toInt32), (.int (px2 >>> ((8 : Int32) &&& 31)).toInt8.toInt32), (.int 0), (.int 0)] (.int 0)) (hn0 : n0 ≤ pa0) (hc_px0 : nar .char px0 = px0) (hc_px1 : nar .char px1 = px1) (hc_px2 : nar .char px2 = px2) :
    Ow.Con l Z EL1 n0 my8 jdk_52_method_4_code 3 (Option.none : Option Jvm.ClassFile.FieldType) [] ({ frames := 0, cells := 0, slots := 0, locals := 0 } : Room) #[(.ref pa0), (.int 2), (.int px0)] [pa0] h0 (fun v h S' => (v = none ∧ Keep h0 h [pa0] ∧ Arv Z h pa0 pk0 .byte (6 : Int32) [(.int px1.toInt8.toInt32), (.int (px1 >>> ((8 : Int32) &&& 31)).toInt8.toInt32), (.int px2.toInt8.toInt32), (.int (px2 >>> ((8 : Int32) &&& 31)).toInt8.toInt32), (.int px0.toInt8.toInt32), (.int (px0 >>> ((8 : Int32) &&& 31)).toInt8.toInt32)] (.int 0) ∧ S' = [])) := by
 refine Ow.Con.enter (Ls := #[.val (.ref pa0), .val (.int 2), .val (.int px0)]) (plainFor_of_name pn3) O0 (hEW hw) (hSA hw) ?_
 intro p e s m below meth c B
 have z0 := Ow.old_le O0
 have lpa0 : (pa0 : Nat) < h0.size := hf0.lt
 refine Ow.getstatic (pc' := 3) B e10_0 (w127 hw) Via.refl GS.1 ?_
 refine Ow.ifT (pc' := 28) B e10_3 (by decide) ?_
 refine Ow.iloadN (pc' := 29) B e10_28 ?_
 refine Ow.iconst (pc' := 30) (x := 1) B e10_29 ?_
 refine Ow.ishl (pc' := 31) (z := 4) B e10_30 ?_
 refine Ow.istoreN (pc' := 32) (Ls' := #[.val (.ref pa0), .val (.int 4), .val (.int px0)]) B e10_31 ?_
 refine Ow.aloadN (pc' := 33) B e10_32 ?_
 refine Ow.iloadN (pc' := 34) B e10_33 ?_
 refine Ow.iinc (pc' := 37) (y := 5) (Ls' := #[.val (.ref pa0), .val (.int 5), .val (.int px0)]) B e10_34 ?_
 refine Ow.iloadN (pc' := 38) B e10_37 ?_
 refine Ow.getstatic (pc' := 41) B e10_38 (w128 hw) Via.refl GS.2.1 ?_
 refine Ow.ishr (pc' := 42) (z := px0) (hz := (Ow.shr0 _)) B e10_41 ?_
 refine Ow.i2b (pc' := 43) (z := px0.toInt8.toInt32) B e10_42 ?_
 refine Ow.bastore (pc' := 44) (i := 4) B e10_43 hf0 ⟨by decide, by decide⟩ (by simp) ?_
 intro h1 Kh1 V0h1
 have zh1 := Kh1.1
 have V2 : Arv Z h1 pa0 pk0 .byte (6 : Int32) [(.int px1.toInt8.toInt32), (.int (px1 >>> ((8 : Int32) &&& 31)).toInt8.toInt32), (.int px2.toInt8.toInt32), (.int (px2 >>> ((8 : Int32) &&& 31)).toInt8.toInt32), (.int px0.toInt8.toInt32), (.int 0)] (.int 0) := (by have e0 := V0h1; rw [show nar .byte px0.toInt8.toInt32 = px0.toInt8.toInt32 from Ow.nar_b _] at e0; exact e0)
 refine Ow.aloadN (pc' := 45) B e10_44 ?_
 refine Ow.iloadN (pc' := 46) B e10_45 ?_
 refine Ow.iloadN (pc' := 47) B e10_46 ?_
 refine Ow.getstatic (pc' := 50) B e10_47 (w129 hw) Via.refl GS.2.2 ?_
 refine Ow.ishr (pc' := 51) (z := (px0 >>> ((8 : Int32) &&& 31))) B e10_50 ?_
 refine Ow.i2b (pc' := 52) (z := (px0 >>> ((8 : Int32) &&& 31)).toInt8.toInt32) B e10_51 ?_
 refine Ow.bastore (pc' := 53) (i := 5) B e10_52 V2 ⟨by decide, by decide⟩ (by simp) ?_
 intro h3 Kh3 V0h3
 have zh3 := Kh3.1
 have V4 : Arv Z h3 pa0 pk0 .byte (6 : Int32) [(.int px1.toInt8.toInt32), (.int (px1 >>> ((8 : Int32) &&& 31)).toInt8.toInt32), (.int px2.toInt8.toInt32), (.int (px2 >>> ((8 : Int32) &&& 31)).toInt8.toInt32), (.int px0.toInt8.toInt32), (.int (px0 >>> ((8 : Int32) &&& 31)).toInt8.toInt32)] (.int 0) := (by have e0 := V0h3; rw [show nar .byte (px0 >>> ((8 : Int32) &&& 31)).toInt8.toInt32 = (px0 >>> ((8 : Int32) &&& 31)).toInt8.toInt32 from Ow.nar_b _] at e0; exact e0)
 exact Ow.retV (S' := []) B e10_53 (⟨rfl, (((Keep.refl _ [pa0]).trans Kh1 (allS (Or.inl (by simp)) all0)).trans Kh3 (allS (Or.inl (by simp)) all0)), V4, rfl⟩)
set_option maxRecDepth 65536 in
set_option maxHeartbeats 40000000 in
theorem con_toBytes_82 (hw : Hw a0 Z) (G : Ow.Glo Z cz sf) (GS : GlS Z) {pa0 : Nat} {px0 : Int32} {px1 : Int32} {px2 : Int32} {pk0 : ClassId} {h0 : Heap} (O0 : Old Z n0 h0) (hf0 : Arv Z h0 pa0 pk0 .char (3 : Int32) [(.int px0), (.int px1), (.int px2)] (.int 0)) (hn0 : n0 ≤ pa0) (hc_px0 : nar .char px0 = px0) (hc_px1 : nar .char px1 = px1) (hc_px2 : nar .char px2 = px2) :
    Ow.Con l Z EL1 n0 my9 jdk_52_method_14_code 5 (Option.some (Jvm.ClassFile.FieldType.array Jvm.ClassFile.FieldType.byte)) [] ({ frames := 2, cells := 1, slots := 6, locals := 24 } : Room) #[(.ref pa0), (.int 0), (.int 3)] [] h0 (fun v h S' => (∃ r0 : Nat, ∃ k0 : ClassId, v = some (.ref r0) ∧ Keep h0 h [] ∧ h0.size ≤ r0 ∧ Arv Z h r0 k0 .byte (6 : Int32) [(.int px0.toInt8.toInt32), (.int (px0 >>> ((8 : Int32) &&& 31)).toInt8.toInt32), (.int px1.toInt8.toInt32), (.int (px1 >>> ((8 : Int32) &&& 31)).toInt8.toInt32), (.int px2.toInt8.toInt32), (.int (px2 >>> ((8 : Int32) &&& 31)).toInt8.toInt32)] (.int 0) ∧ S' = [r0])) := by
 refine Ow.Con.enter (Ls := #[.val (.ref pa0), .val (.int 0), .val (.int 3), .unset, .unset]) (plainFor_of_name pn3) O0 (hEW hw) (hSA hw) ?_
 intro p e s m below meth c B
 have z0 := Ow.old_le O0
 have lpa0 : (pa0 : Nat) < h0.size := hf0.lt
 refine Ow.iloadN (pc' := 1) B e7_0 ?_
 refine Ow.Go.old (fun o1 => ?_)
 refine Ow.callStatic (pc' := 4) (W := 0) (k' := 1) (n' := 6) (argsL := [(.int 3)]) (rest := []) B e7_1 (w117 hw) (w118 hw) (w40 hw) (w119 hw) (con_newBytesFor_78 hw G GS o1) pd7 ?_
 intro vq2 h3 S4 q2 zh3
 obtain ⟨r5, k6, rfl, Kh3, br5, f7, rfl⟩ := q2
 have lr5 : (r5 : Nat) < h3.size := f7.lt
 refine Ow.Go.norm (S' := [r5]) (st' := [(.ref r5)]) (fun _ q => q) rfl ?_
 refine Ow.astoreN (pc' := 5) (Ls' := #[.val (.ref pa0), .val (.int 0), .val (.int 3), .val (.ref r5), .unset]) B e7_4 ?_
 refine Ow.iconst (pc' := 6) (x := 0) B e7_5 ?_
 refine Ow.istore (pc' := 8) (Ls' := #[.val (.ref pa0), .val (.int 0), .val (.int 3), .val (.ref r5), .val (.int 0)]) B e7_6 ?_
 refine Ow.iload (pc' := 10) B e7_8 ?_
 refine Ow.iloadN (pc' := 11) B e7_10 ?_
 refine Ow.icmpF (pc' := 14) B e7_11 (by decide) ?_
 refine Ow.aloadN (pc' := 15) B e7_14 ?_
 refine Ow.iload (pc' := 17) B e7_15 ?_
 refine Ow.aloadN (pc' := 18) B e7_17 ?_
 refine Ow.iloadN (pc' := 19) B e7_18 ?_
 have f8 := hf0.keep Kh3 Ow.nin0
 refine Ow.caload (pc' := 20) B e7_19 f8 ⟨by decide, by decide⟩ rfl ?_
 refine Ow.Go.old (fun o9 => ?_)
 refine Ow.callStatic (pc' := 23) (W := 0) (k' := 1) (n' := 6) (argsL := [(.ref r5), (.int 0), (.int px0)]) (rest := []) B e7_20 (w124 hw) (w125 hw) (w40 hw) (w126 hw) (con_putChar_79 hw G GS (pa0 := r5) (px0 := px0) (pk0 := k6) o9 f7 (by omega) hc_px0) pd8 ?_
 intro vq10 h11 S12 q10 zh11
 obtain ⟨rfl, Kh11, f13, rfl⟩ := q10
 refine Ow.Go.nr (S' := [r5]) (st' := []) ?_
 refine Ow.iinc (pc' := 26) (y := 1) (Ls' := #[.val (.ref pa0), .val (.int 1), .val (.int 3), .val (.ref r5), .val (.int 0)]) B e7_23 ?_
 refine Ow.iinc (pc' := 29) (y := 1) (Ls' := #[.val (.ref pa0), .val (.int 1), .val (.int 3), .val (.ref r5), .val (.int 1)]) B e7_26 ?_
 refine Ow.goto (pc' := 8) B e7_29 ?_
 refine Ow.iload (pc' := 10) B e7_8 ?_
 refine Ow.iloadN (pc' := 11) B e7_10 ?_
 refine Ow.icmpF (pc' := 14) B e7_11 (by decide) ?_
 refine Ow.aloadN (pc' := 15) B e7_14 ?_
 refine Ow.iload (pc' := 17) B e7_15 ?_
 refine Ow.aloadN (pc' := 18) B e7_17 ?_
 refine Ow.iloadN (pc' := 19) B e7_18 ?_
 have f14 := f8.keep Kh11 (Ow.ninS (by omega) Ow.nin0)
 refine Ow.caload (pc' := 20) B e7_19 f14 ⟨by decide, by decide⟩ rfl ?_
 refine Ow.Go.old (fun o15 => ?_)
 refine Ow.callStatic (pc' := 23) (W := 0) (k' := 1) (n' := 6) (argsL := [(.ref r5), (.int 1), (.int px1)]) (rest := []) B e7_20 (w124 hw) (w125 hw) (w40 hw) (w126 hw) (con_putChar_80 hw G GS (pa0 := r5) (px0 := px1) (px1 := px0) (pk0 := k6) o15 f13 (by omega) hc_px1 hc_px0) pd8 ?_
 intro vq16 h17 S18 q16 zh17
 obtain ⟨rfl, Kh17, f19, rfl⟩ := q16
 refine Ow.Go.nr (S' := [r5]) (st' := []) ?_
 refine Ow.iinc (pc' := 26) (y := 2) (Ls' := #[.val (.ref pa0), .val (.int 2), .val (.int 3), .val (.ref r5), .val (.int 1)]) B e7_23 ?_
 refine Ow.iinc (pc' := 29) (y := 2) (Ls' := #[.val (.ref pa0), .val (.int 2), .val (.int 3), .val (.ref r5), .val (.int 2)]) B e7_26 ?_
 refine Ow.goto (pc' := 8) B e7_29 ?_
 refine Ow.iload (pc' := 10) B e7_8 ?_
 refine Ow.iloadN (pc' := 11) B e7_10 ?_
 refine Ow.icmpF (pc' := 14) B e7_11 (by decide) ?_
 refine Ow.aloadN (pc' := 15) B e7_14 ?_
 refine Ow.iload (pc' := 17) B e7_15 ?_
 refine Ow.aloadN (pc' := 18) B e7_17 ?_
 refine Ow.iloadN (pc' := 19) B e7_18 ?_
 have f20 := f14.keep Kh17 (Ow.ninS (by omega) Ow.nin0)
 refine Ow.caload (pc' := 20) B e7_19 f20 ⟨by decide, by decide⟩ rfl ?_
 refine Ow.Go.old (fun o21 => ?_)
 refine Ow.callStatic (pc' := 23) (W := 0) (k' := 1) (n' := 6) (argsL := [(.ref r5), (.int 2), (.int px2)]) (rest := []) B e7_20 (w124 hw) (w125 hw) (w40 hw) (w126 hw) (con_putChar_81 hw G GS (pa0 := r5) (px0 := px2) (px1 := px0) (px2 := px1) (pk0 := k6) o21 f19 (by omega) hc_px2 hc_px0 hc_px1) pd8 ?_
 intro vq22 h23 S24 q22 zh23
 obtain ⟨rfl, Kh23, f25, rfl⟩ := q22
 refine Ow.Go.nr (S' := [r5]) (st' := []) ?_
 refine Ow.iinc (pc' := 26) (y := 3) (Ls' := #[.val (.ref pa0), .val (.int 3), .val (.int 3), .val (.ref r5), .val (.int 2)]) B e7_23 ?_
 refine Ow.iinc (pc' := 29) (y := 3) (Ls' := #[.val (.ref pa0), .val (.int 3), .val (.int 3), .val (.ref r5), .val (.int 3)]) B e7_26 ?_
 refine Ow.goto (pc' := 8) B e7_29 ?_
 refine Ow.iload (pc' := 10) B e7_8 ?_
 refine Ow.iloadN (pc' := 11) B e7_10 ?_
 refine Ow.icmpT (pc' := 32) B e7_11 (by decide) ?_
 refine Ow.aloadN (pc' := 33) B e7_32 ?_
 exact Ow.retA (S' := [r5]) (t := (.array .byte)) B e7_33 (⟨r5, k6, rfl, (((((Keep.refl _ []).trans Kh3 (fun _ q => nomatch q)).trans Kh11 (allS (Or.inr (by omega)) all0)).trans Kh17 (allS (Or.inr (by omega)) all0)).trans Kh23 (allS (Or.inr (by omega)) all0)), (by omega), f25, rfl⟩)
set_option maxRecDepth 65536 in
set_option maxHeartbeats 40000000 in
theorem con_getChar_83 (hw : Hw a0 Z) (G : Ow.Glo Z cz sf) (GS : GlS Z) {pa0 : Nat} {px0 : Int32} {px1 : Int32} {px2 : Int32} {pk0 : ClassId} {h0 : Heap} (O0 : Old Z n0 h0) (hf0 : Arv Z h0 pa0 pk0 .byte (6 : Int32) [(.int px0.toInt8.toInt32), (.int (px0 >>> ((8 : Int32) &&& 31)).toInt8.toInt32), (.int px1.toInt8.toInt32), (.int (px1 >>> ((8 : Int32) &&& 31)).toInt8.toInt32), (.int px2.toInt8.toInt32), (.int (px2 >>> ((8 : Int32) &&& 31)).toInt8.toInt32)] (.int 0)) (hn0 : n0 ≤ pa0) (hk0 : ¬ (px0 < (0 : Int32))) (hk1 : ¬ ((65535 : Int32) < px0)) (hc_px0 : nar .char px0 = px0) (hc_px1 : nar .char px1 = px1) (hc_px2 : nar .char px2 = px2) :
    Ow.Con l Z EL1 n0 my10 jdk_52_method_5_code 2 (Option.some Jvm.ClassFile.FieldType.char) [] ({ frames := 0, cells := 0, slots := 0, locals := 0 } : Room) #[(.ref pa0), (.int 0)] [pa0] h0 (fun v h S' => (v = some (.int px0) ∧ h = h0 ∧ S' = [])) := by
 refine Ow.Con.enter (Ls := #[.val (.ref pa0), .val (.int 0)]) (plainFor_of_name pn3) O0 (hEW hw) (hSA hw) ?_
 intro p e s m below meth c B
 have z0 := Ow.old_le O0
 have lpa0 : (pa0 : Nat) < h0.size := hf0.lt
 refine Ow.getstatic (pc' := 3) B e11_0 (w127 hw) Via.refl GS.1 ?_
 refine Ow.ifT (pc' := 28) B e11_3 (by decide) ?_
 refine Ow.iloadN (pc' := 29) B e11_28 ?_
 refine Ow.iconst (pc' := 30) (x := 1) B e11_29 ?_
 refine Ow.ishl (pc' := 31) (z := 0) B e11_30 ?_
 refine Ow.istoreN (pc' := 32) (Ls' := #[.val (.ref pa0), .val (.int 0)]) B e11_31 ?_
 refine Ow.aloadN (pc' := 33) B e11_32 ?_
 refine Ow.iloadN (pc' := 34) B e11_33 ?_
 refine Ow.iinc (pc' := 37) (y := 1) (Ls' := #[.val (.ref pa0), .val (.int 1)]) B e11_34 ?_
 refine Ow.baload (pc' := 38) B e11_37 hf0 ⟨by decide, by decide⟩ rfl ?_
 refine Ow.sipush (pc' := 41) (x := 255) B e11_38 ?_
 refine Ow.iand (pc' := 42) (z := (px0.toInt8.toInt32 &&& (255 : Int32))) B e11_41 ?_
 refine Ow.getstatic (pc' := 45) B e11_42 (w128 hw) Via.refl GS.2.1 ?_
 refine Ow.ishl (pc' := 46) (z := ((px0.toInt8.toInt32 &&& (255 : Int32)) <<< ((0 : Int32) &&& 31))) B e11_45 ?_
 refine Ow.aloadN (pc' := 47) B e11_46 ?_
 refine Ow.iloadN (pc' := 48) B e11_47 ?_
 refine Ow.baload (pc' := 49) B e11_48 hf0 ⟨by decide, by decide⟩ rfl ?_
 refine Ow.sipush (pc' := 52) (x := 255) B e11_49 ?_
 refine Ow.iand (pc' := 53) (z := ((px0 >>> ((8 : Int32) &&& 31)).toInt8.toInt32 &&& (255 : Int32))) B e11_52 ?_
 refine Ow.getstatic (pc' := 56) B e11_53 (w129 hw) Via.refl GS.2.2 ?_
 refine Ow.ishl (pc' := 57) (z := (((px0 >>> ((8 : Int32) &&& 31)).toInt8.toInt32 &&& (255 : Int32)) <<< ((8 : Int32) &&& 31))) B e11_56 ?_
 refine Ow.ior (pc' := 58) (z := px0) (hz := (Ow.u16 (hk0) (hk1))) B e11_57 ?_
 refine Ow.i2c (pc' := 59) (z := px0) (hz := hc_px0) B e11_58 ?_
 exact Ow.retI (S' := []) (t := .char) (hnn := (Ow.cnarrow hc_px0)) B e11_59 (⟨rfl, rfl, rfl⟩)
set_option maxRecDepth 65536 in
set_option maxHeartbeats 40000000 in
theorem con_getChar_84 (hw : Hw a0 Z) (G : Ow.Glo Z cz sf) (GS : GlS Z) {pa0 : Nat} {px0 : Int32} {px1 : Int32} {px2 : Int32} {pk0 : ClassId} {h0 : Heap} (O0 : Old Z n0 h0) (hf0 : Arv Z h0 pa0 pk0 .byte (6 : Int32) [(.int px0.toInt8.toInt32), (.int (px0 >>> ((8 : Int32) &&& 31)).toInt8.toInt32), (.int px1.toInt8.toInt32), (.int (px1 >>> ((8 : Int32) &&& 31)).toInt8.toInt32), (.int px2.toInt8.toInt32), (.int (px2 >>> ((8 : Int32) &&& 31)).toInt8.toInt32)] (.int 0)) (hn0 : n0 ≤ pa0) (hk0 : ¬ (px1 < (0 : Int32))) (hk1 : ¬ ((65535 : Int32) < px1)) (hc_px0 : nar .char px0 = px0) (hc_px1 : nar .char px1 = px1) (hc_px2 : nar .char px2 = px2) :
    Ow.Con l Z EL1 n0 my10 jdk_52_method_5_code 2 (Option.some Jvm.ClassFile.FieldType.char) [] ({ frames := 0, cells := 0, slots := 0, locals := 0 } : Room) #[(.ref pa0), (.int 1)] [pa0] h0 (fun v h S' => (v = some (.int px1) ∧ h = h0 ∧ S' = [])) := by
 refine Ow.Con.enter (Ls := #[.val (.ref pa0), .val (.int 1)]) (plainFor_of_name pn3) O0 (hEW hw) (hSA hw) ?_
 intro p e s m below meth c B
 have z0 := Ow.old_le O0
 have lpa0 : (pa0 : Nat) < h0.size := hf0.lt
 refine Ow.getstatic (pc' := 3) B e11_0 (w127 hw) Via.refl GS.1 ?_
 refine Ow.ifT (pc' := 28) B e11_3 (by decide) ?_
 refine Ow.iloadN (pc' := 29) B e11_28 ?_
 refine Ow.iconst (pc' := 30) (x := 1) B e11_29 ?_
 refine Ow.ishl (pc' := 31) (z := 2) B e11_30 ?_
 refine Ow.istoreN (pc' := 32) (Ls' := #[.val (.ref pa0), .val (.int 2)]) B e11_31 ?_
 refine Ow.aloadN (pc' := 33) B e11_32 ?_
 refine Ow.iloadN (pc' := 34) B e11_33 ?_
 refine Ow.iinc (pc' := 37) (y := 3) (Ls' := #[.val (.ref pa0), .val (.int 3)]) B e11_34 ?_
 refine Ow.baload (pc' := 38) B e11_37 hf0 ⟨by decide, by decide⟩ rfl ?_
 refine Ow.sipush (pc' := 41) (x := 255) B e11_38 ?_
 refine Ow.iand (pc' := 42) (z := (px1.toInt8.toInt32 &&& (255 : Int32))) B e11_41 ?_
 refine Ow.getstatic (pc' := 45) B e11_42 (w128 hw) Via.refl GS.2.1 ?_
 refine Ow.ishl (pc' := 46) (z := ((px1.toInt8.toInt32 &&& (255 : Int32)) <<< ((0 : Int32) &&& 31))) B e11_45 ?_
 refine Ow.aloadN (pc' := 47) B e11_46 ?_
 refine Ow.iloadN (pc' := 48) B e11_47 ?_
 refine Ow.baload (pc' := 49) B e11_48 hf0 ⟨by decide, by decide⟩ rfl ?_
 refine Ow.sipush (pc' := 52) (x := 255) B e11_49 ?_
 refine Ow.iand (pc' := 53) (z := ((px1 >>> ((8 : Int32) &&& 31)).toInt8.toInt32 &&& (255 : Int32))) B e11_52 ?_
 refine Ow.getstatic (pc' := 56) B e11_53 (w129 hw) Via.refl GS.2.2 ?_
 refine Ow.ishl (pc' := 57) (z := (((px1 >>> ((8 : Int32) &&& 31)).toInt8.toInt32 &&& (255 : Int32)) <<< ((8 : Int32) &&& 31))) B e11_56 ?_
 refine Ow.ior (pc' := 58) (z := px1) (hz := (Ow.u16 (hk0) (hk1))) B e11_57 ?_
 refine Ow.i2c (pc' := 59) (z := px1) (hz := hc_px1) B e11_58 ?_
 exact Ow.retI (S' := []) (t := .char) (hnn := (Ow.cnarrow hc_px1)) B e11_59 (⟨rfl, rfl, rfl⟩)
set_option maxRecDepth 65536 in
set_option maxHeartbeats 40000000 in
theorem con_getChar_85 (hw : Hw a0 Z) (G : Ow.Glo Z cz sf) (GS : GlS Z) {pa0 : Nat} {px0 : Int32} {px1 : Int32} {px2 : Int32} {pk0 : ClassId} {h0 : Heap} (O0 : Old Z n0 h0) (hf0 : Arv Z h0 pa0 pk0 .byte (6 : Int32) [(.int px0.toInt8.toInt32), (.int (px0 >>> ((8 : Int32) &&& 31)).toInt8.toInt32), (.int px1.toInt8.toInt32), (.int (px1 >>> ((8 : Int32) &&& 31)).toInt8.toInt32), (.int px2.toInt8.toInt32), (.int (px2 >>> ((8 : Int32) &&& 31)).toInt8.toInt32)] (.int 0)) (hn0 : n0 ≤ pa0) (hk0 : ¬ (px2 < (0 : Int32))) (hk1 : ¬ ((65535 : Int32) < px2)) (hc_px0 : nar .char px0 = px0) (hc_px1 : nar .char px1 = px1) (hc_px2 : nar .char px2 = px2) :
    Ow.Con l Z EL1 n0 my10 jdk_52_method_5_code 2 (Option.some Jvm.ClassFile.FieldType.char) [] ({ frames := 0, cells := 0, slots := 0, locals := 0 } : Room) #[(.ref pa0), (.int 2)] [pa0] h0 (fun v h S' => (v = some (.int px2) ∧ h = h0 ∧ S' = [])) := by
 refine Ow.Con.enter (Ls := #[.val (.ref pa0), .val (.int 2)]) (plainFor_of_name pn3) O0 (hEW hw) (hSA hw) ?_
 intro p e s m below meth c B
 have z0 := Ow.old_le O0
 have lpa0 : (pa0 : Nat) < h0.size := hf0.lt
 refine Ow.getstatic (pc' := 3) B e11_0 (w127 hw) Via.refl GS.1 ?_
 refine Ow.ifT (pc' := 28) B e11_3 (by decide) ?_
 refine Ow.iloadN (pc' := 29) B e11_28 ?_
 refine Ow.iconst (pc' := 30) (x := 1) B e11_29 ?_
 refine Ow.ishl (pc' := 31) (z := 4) B e11_30 ?_
 refine Ow.istoreN (pc' := 32) (Ls' := #[.val (.ref pa0), .val (.int 4)]) B e11_31 ?_
 refine Ow.aloadN (pc' := 33) B e11_32 ?_
 refine Ow.iloadN (pc' := 34) B e11_33 ?_
 refine Ow.iinc (pc' := 37) (y := 5) (Ls' := #[.val (.ref pa0), .val (.int 5)]) B e11_34 ?_
 refine Ow.baload (pc' := 38) B e11_37 hf0 ⟨by decide, by decide⟩ rfl ?_
 refine Ow.sipush (pc' := 41) (x := 255) B e11_38 ?_
 refine Ow.iand (pc' := 42) (z := (px2.toInt8.toInt32 &&& (255 : Int32))) B e11_41 ?_
 refine Ow.getstatic (pc' := 45) B e11_42 (w128 hw) Via.refl GS.2.1 ?_
 refine Ow.ishl (pc' := 46) (z := ((px2.toInt8.toInt32 &&& (255 : Int32)) <<< ((0 : Int32) &&& 31))) B e11_45 ?_
 refine Ow.aloadN (pc' := 47) B e11_46 ?_
 refine Ow.iloadN (pc' := 48) B e11_47 ?_
 refine Ow.baload (pc' := 49) B e11_48 hf0 ⟨by decide, by decide⟩ rfl ?_
 refine Ow.sipush (pc' := 52) (x := 255) B e11_49 ?_
 refine Ow.iand (pc' := 53) (z := ((px2 >>> ((8 : Int32) &&& 31)).toInt8.toInt32 &&& (255 : Int32))) B e11_52 ?_
 refine Ow.getstatic (pc' := 56) B e11_53 (w129 hw) Via.refl GS.2.2 ?_
 refine Ow.ishl (pc' := 57) (z := (((px2 >>> ((8 : Int32) &&& 31)).toInt8.toInt32 &&& (255 : Int32)) <<< ((8 : Int32) &&& 31))) B e11_56 ?_
 refine Ow.ior (pc' := 58) (z := px2) (hz := (Ow.u16 (hk0) (hk1))) B e11_57 ?_
 refine Ow.i2c (pc' := 59) (z := px2) (hz := hc_px2) B e11_58 ?_
 exact Ow.retI (S' := []) (t := .char) (hnn := (Ow.cnarrow hc_px2)) B e11_59 (⟨rfl, rfl, rfl⟩)
set_option maxRecDepth 65536 in
set_option maxHeartbeats 40000000 in
theorem con_compress_86 (hw : Hw a0 Z) (G : Ow.Glo Z cz sf) (GS : GlS Z) {pa0 : Nat} {px0 : Int32} {px1 : Int32} {px2 : Int32} {pk0 : ClassId} {h0 : Heap} (O0 : Old Z n0 h0) (hf0 : Arv Z h0 pa0 pk0 .char (3 : Int32) [(.int px0), (.int px1), (.int px2)] (.int 0)) (hn0 : n0 ≤ pa0) (hk0 : ¬ (px0 < (0 : Int32))) (hk1 : ¬ ((65535 : Int32) < px0)) (hk2 : ¬ (px1 < (0 : Int32))) (hk3 : ¬ ((65535 : Int32) < px1)) (hk4 : ¬ (px2 < (0 : Int32))) (hk5 : ¬ ((65535 : Int32) < px2)) (hc_px0 : nar .char px0 = px0) (hc_px1 : nar .char px1 = px1) (hc_px2 : nar .char px2 = px2) :
    Ow.Con l Z EL1 n0 my11 jdk_52_method_16_code 6 (Option.some (Jvm.ClassFile.FieldType.array Jvm.ClassFile.FieldType.byte)) [] ({ frames := 3, cells := 2, slots := 9, locals := 40 } : Room) #[(.ref pa0), (.int 0), (.int 3)] [] h0 (fun v h S' => (∃ r0 : Nat, ∃ k0 : ClassId, v = some (.ref r0) ∧ Keep h0 h [] ∧ (255 : Int32) < px0 ∧ h0.size ≤ r0 ∧ Arv Z h r0 k0 .byte (6 : Int32) [(.int px0.toInt8.toInt32), (.int (px0 >>> ((8 : Int32) &&& 31)).toInt8.toInt32), (.int px1.toInt8.toInt32), (.int (px1 >>> ((8 : Int32) &&& 31)).toInt8.toInt32), (.int px2.toInt8.toInt32), (.int (px2 >>> ((8 : Int32) &&& 31)).toInt8.toInt32)] (.int 0) ∧ S' = [r0]) ∨ (∃ r0 : Nat, ∃ k0 : ClassId, v = some (.ref r0) ∧ Keep h0 h [] ∧ ¬ ((255 : Int32) < px0) ∧ (255 : Int32) < px1 ∧ h0.size ≤ r0 ∧ Arv Z h r0 k0 .byte (6 : Int32) [(.int px0.toInt8.toInt32), (.int (px0 >>> ((8 : Int32) &&& 31)).toInt8.toInt32), (.int px1.toInt8.toInt32), (.int (px1 >>> ((8 : Int32) &&& 31)).toInt8.toInt32), (.int px2.toInt8.toInt32), (.int (px2 >>> ((8 : Int32) &&& 31)).toInt8.toInt32)] (.int 0) ∧ S' = [r0]) ∨ (∃ r0 : Nat, ∃ k0 : ClassId, v = some (.ref r0) ∧ Keep h0 h [] ∧ ¬ ((255 : Int32) < px0) ∧ ¬ ((255 : Int32) < px1) ∧ (255 : Int32) < px2 ∧ h0.size ≤ r0 ∧ Arv Z h r0 k0 .byte (6 : Int32) [(.int px0.toInt8.toInt32), (.int (px0 >>> ((8 : Int32) &&& 31)).toInt8.toInt32), (.int px1.toInt8.toInt32), (.int (px1 >>> ((8 : Int32) &&& 31)).toInt8.toInt32), (.int px2.toInt8.toInt32), (.int (px2 >>> ((8 : Int32) &&& 31)).toInt8.toInt32)] (.int 0) ∧ S' = [r0]) ∨ (∃ r0 : Nat, ∃ k0 : ClassId, v = some (.ref r0) ∧ Keep h0 h [] ∧ ¬ ((255 : Int32) < px0) ∧ ¬ ((255 : Int32) < px1) ∧ ¬ ((255 : Int32) < px2) ∧ h0.size ≤ r0 ∧ Arv Z h r0 k0 .byte (3 : Int32) [(.int px0.toInt8.toInt32), (.int px1.toInt8.toInt32), (.int px2.toInt8.toInt32)] (.int 0) ∧ S' = [r0])) := by
 refine Ow.Con.enter (Ls := #[.val (.ref pa0), .val (.int 0), .val (.int 3), .unset, .unset, .unset]) (plainFor_of_name pn3) O0 (hEW hw) (hSA hw) ?_
 intro p e s m below meth c B
 have z0 := Ow.old_le O0
 have lpa0 : (pa0 : Nat) < h0.size := hf0.lt
 refine Ow.iloadN (pc' := 1) B e5_0 ?_
 refine Ow.newArr (pc' := 3) (k' := 1) (n' := 3) (cap := 3) B e5_1 (w21 hw) (by decide) (by decide) ?_
 intro h2 a1 ka1 ga1 ba1 Kh2 V0a1
 have zh2 := Kh2.1
 have la1 : (a1 : Nat) < h2.size := V0a1.lt
 have Va1 : Arv Z h2 a1 ka1 .byte (3 : Int32) [(.int 0), (.int 0), (.int 0)] (.int 0) := V0a1.pad (pad_rep [] (.int 0) 3)
 refine Ow.astoreN (pc' := 4) (Ls' := #[.val (.ref pa0), .val (.int 0), .val (.int 3), .val (.ref a1), .unset, .unset]) B e5_3 ?_
 refine Ow.aloadN (pc' := 5) B e5_4 ?_
 refine Ow.iloadN (pc' := 6) B e5_5 ?_
 refine Ow.aloadN (pc' := 7) B e5_6 ?_
 refine Ow.iconst (pc' := 8) (x := 0) B e5_7 ?_
 refine Ow.iloadN (pc' := 9) B e5_8 ?_
 refine Ow.Go.old (fun o3 => ?_)
 have f4 := hf0.keep Kh2 Ow.nin0
 refine Ow.callStatic (pc' := 12) (W := 0) (k' := 1) (n' := 3) (argsL := [(.ref pa0), (.int 0), (.ref a1), (.int 0), (.int 3)]) (rest := []) B e5_9 (w42 hw) (w43 hw) (w40 hw) (w44 hw) (con_compress_76 hw G GS (pa0 := pa0) (pa1 := a1) (px0 := px0) (px1 := px1) (px2 := px2) (pk0 := pk0) (pk1 := ka1) o3 f4 Va1 (by omega) (by omega) (by omega) hc_px0 hc_px1 hc_px2) pd5 ?_
 intro vq5 h6 S7 q5 zh6
 rcases q5 with q5 | q5 | q5 | q5
 ·obtain ⟨rfl, rfl, c8, rfl⟩ := q5
  refine Ow.Go.nr (S' := [a1]) (st' := [(.int 0)]) ?_
  refine Ow.istore (pc' := 14) (Ls' := #[.val (.ref pa0), .val (.int 0), .val (.int 3), .val (.ref a1), .val (.int 0), .unset]) B e5_12 ?_
  refine Ow.iload (pc' := 16) B e5_14 ?_
  refine Ow.iloadN (pc' := 17) B e5_16 ?_
  refine Ow.icmpF (pc' := 20) B e5_17 (by decide) ?_
  refine Ow.aloadN (pc' := 21) B e5_20 ?_
  refine Ow.iloadN (pc' := 22) B e5_21 ?_
  refine Ow.iloadN (pc' := 23) B e5_22 ?_
  refine Ow.Go.old (fun o9 => ?_)
  refine Ow.callStatic (pc' := 26) (W := 0) (k' := 2) (n' := 9) (argsL := [(.ref pa0), (.int 0), (.int 3)]) (rest := []) B e5_23 (w114 hw) (w115 hw) (w40 hw) (w116 hw) (con_toBytes_82 hw G GS (pa0 := pa0) (px0 := px0) (px1 := px1) (px2 := px2) (pk0 := pk0) o9 f4 (by omega) hc_px0 hc_px1 hc_px2) pd9 ?_
  intro vq10 h11 S12 q10 zh11
  obtain ⟨r13, k14, rfl, Kh11, br13, f15, rfl⟩ := q10
  have lr13 : (r13 : Nat) < h11.size := f15.lt
  refine Ow.Go.norm (S' := [r13, a1]) (st' := [(.ref r13)]) (fun _ q => q) rfl ?_
  refine Ow.astore (pc' := 28) (Ls' := #[.val (.ref pa0), .val (.int 0), .val (.int 3), .val (.ref a1), .val (.int 0), .val (.ref r13)]) B e5_26 ?_
  refine Ow.aload (pc' := 30) B e5_28 ?_
  refine Ow.iload (pc' := 32) B e5_30 ?_
  refine Ow.Go.old (fun o16 => ?_)
  refine Ow.callStatic (pc' := 35) (W := 0) (k' := 2) (n' := 9) (argsL := [(.ref r13), (.int 0)]) (rest := []) B e5_32 (w130 hw) (w131 hw) (w40 hw) (w132 hw) (con_getChar_83 hw G GS (pa0 := r13) (px0 := px0) (px1 := px1) (px2 := px2) (pk0 := k14) o16 f15 (by omega) (hk0) (hk1) hc_px0 hc_px1 hc_px2) pd10 ?_
  intro vq17 h18 S19 q17 zh18
  obtain ⟨rfl, rfl, rfl⟩ := q17
  refine Ow.Go.nr (S' := [r13, a1]) (st' := [(.int px0)]) ?_
  refine Ow.sipush (pc' := 38) (x := 255) B e5_35 ?_
  refine Ow.icmpT (pc' := 54) B e5_38 (tlt (c8)).2.2.1 ?_
  refine Ow.aload (pc' := 56) B e5_54 ?_
  exact Ow.retA (S' := [r13]) (t := (.array .byte)) B e5_56 (Or.inl (⟨r13, k14, rfl, (((Keep.refl _ []).trans Kh2 (fun _ q => nomatch q)).trans Kh11 (fun _ q => nomatch q)), c8, (by omega), f15, rfl⟩))
 ·obtain ⟨rfl, Kh6, c20, c21, f22, rfl⟩ := q5
  refine Ow.Go.nr (S' := [a1]) (st' := [(.int 1)]) ?_
  refine Ow.istore (pc' := 14) (Ls' := #[.val (.ref pa0), .val (.int 0), .val (.int 3), .val (.ref a1), .val (.int 1), .unset]) B e5_12 ?_
  refine Ow.iload (pc' := 16) B e5_14 ?_
  refine Ow.iloadN (pc' := 17) B e5_16 ?_
  refine Ow.icmpF (pc' := 20) B e5_17 (by decide) ?_
  refine Ow.aloadN (pc' := 21) B e5_20 ?_
  refine Ow.iloadN (pc' := 22) B e5_21 ?_
  refine Ow.iloadN (pc' := 23) B e5_22 ?_
  refine Ow.Go.old (fun o23 => ?_)
  have f24 := f4.keep Kh6 (Ow.ninS (by omega) Ow.nin0)
  refine Ow.callStatic (pc' := 26) (W := 0) (k' := 2) (n' := 9) (argsL := [(.ref pa0), (.int 0), (.int 3)]) (rest := []) B e5_23 (w114 hw) (w115 hw) (w40 hw) (w116 hw) (con_toBytes_82 hw G GS (pa0 := pa0) (px0 := px0) (px1 := px1) (px2 := px2) (pk0 := pk0) o23 f24 (by omega) hc_px0 hc_px1 hc_px2) pd9 ?_
  intro vq25 h26 S27 q25 zh26
  obtain ⟨r28, k29, rfl, Kh26, br28, f30, rfl⟩ := q25
  have lr28 : (r28 : Nat) < h26.size := f30.lt
  refine Ow.Go.norm (S' := [r28, a1]) (st' := [(.ref r28)]) (fun _ q => q) rfl ?_
  refine Ow.astore (pc' := 28) (Ls' := #[.val (.ref pa0), .val (.int 0), .val (.int 3), .val (.ref a1), .val (.int 1), .val (.ref r28)]) B e5_26 ?_
  refine Ow.aload (pc' := 30) B e5_28 ?_
  refine Ow.iload (pc' := 32) B e5_30 ?_
  refine Ow.Go.old (fun o31 => ?_)
  refine Ow.callStatic (pc' := 35) (W := 0) (k' := 2) (n' := 9) (argsL := [(.ref r28), (.int 1)]) (rest := []) B e5_32 (w130 hw) (w131 hw) (w40 hw) (w132 hw) (con_getChar_84 hw G GS (pa0 := r28) (px0 := px0) (px1 := px1) (px2 := px2) (pk0 := k29) o31 f30 (by omega) (hk2) (hk3) hc_px0 hc_px1 hc_px2) pd10 ?_
  intro vq32 h33 S34 q32 zh33
  obtain ⟨rfl, rfl, rfl⟩ := q32
  refine Ow.Go.nr (S' := [r28, a1]) (st' := [(.int px1)]) ?_
  refine Ow.sipush (pc' := 38) (x := 255) B e5_35 ?_
  refine Ow.icmpT (pc' := 54) B e5_38 (tlt (c21)).2.2.1 ?_
  refine Ow.aload (pc' := 56) B e5_54 ?_
  exact Ow.retA (S' := [r28]) (t := (.array .byte)) B e5_56 (Or.inr (Or.inl (⟨r28, k29, rfl, ((((Keep.refl _ []).trans Kh2 (fun _ q => nomatch q)).trans Kh6 (allS (Or.inr (by omega)) all0)).trans Kh26 (fun _ q => nomatch q)), c20, c21, (by omega), f30, rfl⟩)))
 ·obtain ⟨rfl, Kh6, c35, c36, c37, f38, rfl⟩ := q5
  refine Ow.Go.nr (S' := [a1]) (st' := [(.int 2)]) ?_
  refine Ow.istore (pc' := 14) (Ls' := #[.val (.ref pa0), .val (.int 0), .val (.int 3), .val (.ref a1), .val (.int 2), .unset]) B e5_12 ?_
  refine Ow.iload (pc' := 16) B e5_14 ?_
  refine Ow.iloadN (pc' := 17) B e5_16 ?_
  refine Ow.icmpF (pc' := 20) B e5_17 (by decide) ?_
  refine Ow.aloadN (pc' := 21) B e5_20 ?_
  refine Ow.iloadN (pc' := 22) B e5_21 ?_
  refine Ow.iloadN (pc' := 23) B e5_22 ?_
  refine Ow.Go.old (fun o39 => ?_)
  have f40 := f4.keep Kh6 (Ow.ninS (by omega) Ow.nin0)
  refine Ow.callStatic (pc' := 26) (W := 0) (k' := 2) (n' := 9) (argsL := [(.ref pa0), (.int 0), (.int 3)]) (rest := []) B e5_23 (w114 hw) (w115 hw) (w40 hw) (w116 hw) (con_toBytes_82 hw G GS (pa0 := pa0) (px0 := px0) (px1 := px1) (px2 := px2) (pk0 := pk0) o39 f40 (by omega) hc_px0 hc_px1 hc_px2) pd9 ?_
  intro vq41 h42 S43 q41 zh42
  obtain ⟨r44, k45, rfl, Kh42, br44, f46, rfl⟩ := q41
  have lr44 : (r44 : Nat) < h42.size := f46.lt
  refine Ow.Go.norm (S' := [r44, a1]) (st' := [(.ref r44)]) (fun _ q => q) rfl ?_
  refine Ow.astore (pc' := 28) (Ls' := #[.val (.ref pa0), .val (.int 0), .val (.int 3), .val (.ref a1), .val (.int 2), .val (.ref r44)]) B e5_26 ?_
  refine Ow.aload (pc' := 30) B e5_28 ?_
  refine Ow.iload (pc' := 32) B e5_30 ?_
  refine Ow.Go.old (fun o47 => ?_)
  refine Ow.callStatic (pc' := 35) (W := 0) (k' := 2) (n' := 9) (argsL := [(.ref r44), (.int 2)]) (rest := []) B e5_32 (w130 hw) (w131 hw) (w40 hw) (w132 hw) (con_getChar_85 hw G GS (pa0 := r44) (px0 := px0) (px1 := px1) (px2 := px2) (pk0 := k45) o47 f46 (by omega) (hk4) (hk5) hc_px0 hc_px1 hc_px2) pd10 ?_
  intro vq48 h49 S50 q48 zh49
  obtain ⟨rfl, rfl, rfl⟩ := q48
  refine Ow.Go.nr (S' := [r44, a1]) (st' := [(.int px2)]) ?_
  refine Ow.sipush (pc' := 38) (x := 255) B e5_35 ?_
  refine Ow.icmpT (pc' := 54) B e5_38 (tlt (c37)).2.2.1 ?_
  refine Ow.aload (pc' := 56) B e5_54 ?_
  exact Ow.retA (S' := [r44]) (t := (.array .byte)) B e5_56 (Or.inr (Or.inr (Or.inl (⟨r44, k45, rfl, ((((Keep.refl _ []).trans Kh2 (fun _ q => nomatch q)).trans Kh6 (allS (Or.inr (by omega)) all0)).trans Kh42 (fun _ q => nomatch q)), c35, c36, c37, (by omega), f46, rfl⟩))))
 ·obtain ⟨rfl, Kh6, c51, c52, c53, f54, rfl⟩ := q5
  refine Ow.Go.nr (S' := [a1]) (st' := [(.int 3)]) ?_
  refine Ow.istore (pc' := 14) (Ls' := #[.val (.ref pa0), .val (.int 0), .val (.int 3), .val (.ref a1), .val (.int 3), .unset]) B e5_12 ?_
  refine Ow.iload (pc' := 16) B e5_14 ?_
  refine Ow.iloadN (pc' := 17) B e5_16 ?_
  refine Ow.icmpT (pc' := 57) B e5_17 (by decide) ?_
  refine Ow.aloadN (pc' := 58) B e5_57 ?_
  exact Ow.retA (S' := [a1]) (t := (.array .byte)) B e5_58 (Or.inr (Or.inr (Or.inr (⟨a1, ka1, rfl, (((Keep.refl _ []).trans Kh2 (fun _ q => nomatch q)).trans Kh6 (allS (Or.inr (by omega)) all0)), c51, c52, c53, (by omega), f54, rfl⟩))))
set_option maxRecDepth 65536 in
set_option maxHeartbeats 40000000 in
theorem con_coderFromArrayLen_87 (hw : Hw a0 Z) (G : Ow.Glo Z cz sf) (GS : GlS Z) {pa0 : Nat} {px0 : Int32} {px1 : Int32} {px2 : Int32} {pk0 : ClassId} {h0 : Heap} (O0 : Old Z n0 h0) (hf0 : Arv Z h0 pa0 pk0 .byte (6 : Int32) [(.int px0.toInt8.toInt32), (.int (px0 >>> ((8 : Int32) &&& 31)).toInt8.toInt32), (.int px1.toInt8.toInt32), (.int (px1 >>> ((8 : Int32) &&& 31)).toInt8.toInt32), (.int px2.toInt8.toInt32), (.int (px2 >>> ((8 : Int32) &&& 31)).toInt8.toInt32)] (.int 0)) (hn0 : n0 ≤ pa0) (hc_px0 : nar .char px0 = px0) (hc_px1 : nar .char px1 = px1) (hc_px2 : nar .char px2 = px2) :
    Ow.Con l Z EL1 n0 my12 jdk_52_method_15_code 2 (Option.some Jvm.ClassFile.FieldType.byte) [] ({ frames := 0, cells := 0, slots := 0, locals := 0 } : Room) #[(.ref pa0), (.int 3)] [pa0] h0 (fun v h S' => (v = some (.int 1) ∧ h = h0 ∧ S' = [])) := by
 refine Ow.Con.enter (Ls := #[.val (.ref pa0), .val (.int 3)]) (plainFor_of_name pn3) O0 (hEW hw) (hSA hw) ?_
 intro p e s m below meth c B
 have z0 := Ow.old_le O0
 have lpa0 : (pa0 : Nat) < h0.size := hf0.lt
 refine Ow.iloadN (pc' := 1) B e12_0 ?_
 refine Ow.aloadN (pc' := 2) B e12_1 ?_
 refine Ow.arrlen (pc' := 3) B e12_2 hf0 ?_
 refine Ow.isub (pc' := 4) (z := (-3 : Int32)) B e12_3 ?_
 refine Ow.bipush (pc' := 6) (x := 31) B e12_4 ?_
 refine Ow.iushr (pc' := 7) (z := 1) B e12_6 ?_
 refine Ow.i2b (pc' := 8) (z := 1) B e12_7 ?_
 exact Ow.retI (S' := []) (t := .byte) B e12_8 (⟨rfl, rfl, rfl⟩)
set_option maxRecDepth 65536 in
set_option maxHeartbeats 40000000 in
theorem con_coderFromArrayLen_88 (hw : Hw a0 Z) (G : Ow.Glo Z cz sf) (GS : GlS Z) {pa0 : Nat} {px0 : Int32} {px1 : Int32} {px2 : Int32} {pk0 : ClassId} {h0 : Heap} (O0 : Old Z n0 h0) (hf0 : Arv Z h0 pa0 pk0 .byte (3 : Int32) [(.int px0.toInt8.toInt32), (.int px1.toInt8.toInt32), (.int px2.toInt8.toInt32)] (.int 0)) (hn0 : n0 ≤ pa0) (hc_px0 : nar .char px0 = px0) (hc_px1 : nar .char px1 = px1) (hc_px2 : nar .char px2 = px2) :
    Ow.Con l Z EL1 n0 my12 jdk_52_method_15_code 2 (Option.some Jvm.ClassFile.FieldType.byte) [] ({ frames := 0, cells := 0, slots := 0, locals := 0 } : Room) #[(.ref pa0), (.int 3)] [pa0] h0 (fun v h S' => (v = some (.int 0) ∧ h = h0 ∧ S' = [])) := by
 refine Ow.Con.enter (Ls := #[.val (.ref pa0), .val (.int 3)]) (plainFor_of_name pn3) O0 (hEW hw) (hSA hw) ?_
 intro p e s m below meth c B
 have z0 := Ow.old_le O0
 have lpa0 : (pa0 : Nat) < h0.size := hf0.lt
 refine Ow.iloadN (pc' := 1) B e12_0 ?_
 refine Ow.aloadN (pc' := 2) B e12_1 ?_
 refine Ow.arrlen (pc' := 3) B e12_2 hf0 ?_
 refine Ow.isub (pc' := 4) (z := 0) B e12_3 ?_
 refine Ow.bipush (pc' := 6) (x := 31) B e12_4 ?_
 refine Ow.iushr (pc' := 7) (z := 0) B e12_6 ?_
 refine Ow.i2b (pc' := 8) (z := 0) B e12_7 ?_
 exact Ow.retI (S' := []) (t := .byte) B e12_8 (⟨rfl, rfl, rfl⟩)
set_option maxRecDepth 65536 in
set_option maxHeartbeats 40000000 in
theorem con_init_89 (hw : Hw a0 Z) (G : Ow.Glo Z cz sf) (GS : GlS Z) {pa0 : Nat} {pa1 : Nat} {px0 : Int32} {px1 : Int32} {px2 : Int32} {pk0 : ClassId} {h0 : Heap} (O0 : Old Z n0 h0) (hf0 : Exa Z h0 pa0 "java/lang/String") (hf1 : Fld Z h0 pa0 "java/lang/String" "coder" "B" (.int 0)) (hf2 : Fld Z h0 pa0 "java/lang/String" "value" "[B" .null) (hf3 : Arv Z h0 pa1 pk0 .char (3 : Int32) [(.int px0), (.int px1), (.int px2)] (.int 0)) (hn0 : n0 ≤ pa0) (hn1 : n0 ≤ pa1) (hk0 : ¬ (px0 < (0 : Int32))) (hk1 : ¬ ((65535 : Int32) < px0)) (hk2 : ¬ (px1 < (0 : Int32))) (hk3 : ¬ ((65535 : Int32) < px1)) (hk4 : ¬ (px2 < (0 : Int32))) (hk5 : ¬ ((65535 : Int32) < px2)) (hc_px0 : nar .char px0 = px0) (hc_px1 : nar .char px1 = px1) (hc_px2 : nar .char px2 = px2) :
    Ow.Con l Z EL1 n0 my0 jdk_42_method_149_code 6 (Option.none : Option Jvm.ClassFile.FieldType) [] ({ frames := 4, cells := 2, slots := 9, locals := 57 } : Room) #[(.ref pa0), (.ref pa1), (.int 0), (.int 3), .null] [pa0] h0 (fun v h S' => (∃ r0 : Nat, ∃ k0 : ClassId, v = none ∧ Keep h0 h [pa0] ∧ h0.size ≤ r0 ∧ Ow.Chs Z h pa0 r0 k0 [px0, px1, px2] ∧ S' = [])) := by
 refine Ow.Con.enter (Ls := #[.val (.ref pa0), .val (.ref pa1), .val (.int 0), .val (.int 3), .val .null, .unset]) (plainFor_of_name pn1) O0 (hEW hw) (hSA hw) ?_
 intro p e s m below meth c B
 have z0 := Ow.old_le O0
 have lpa0 : (pa0 : Nat) < h0.size := hf0.lt
 have lpa1 : (pa1 : Nat) < h0.size := hf3.lt
 refine Ow.aloadN (pc' := 1) B e3_0 ?_
 refine Ow.objInit (pc' := 4) (W := 0) B e3_1 (w17 hw) (w18 hw) (w19 hw) ?_
 refine Ow.iloadN (pc' := 5) B e3_4 ?_
 refine Ow.ifT (pc' := 27) B e3_5 (by decide) ?_
 refine Ow.getstatic (pc' := 30) B e3_27 (w37 hw) Via.refl G.1 ?_
 refine Ow.ifF (pc' := 33) B e3_30 (feq (G.2.1)).1 ?_
 refine Ow.aloadN (pc' := 34) B e3_33 ?_
 refine Ow.iloadN (pc' := 35) B e3_34 ?_
 refine Ow.iloadN (pc' := 36) B e3_35 ?_
 refine Ow.Go.old (fun o1 => ?_)
 refine Ow.callStatic (pc' := 39) (W := 0) (k' := 2) (n' := 9) (argsL := [(.ref pa1), (.int 0), (.int 3)]) (rest := []) B e3_36 (w38 hw) (w39 hw) (w40 hw) (w41 hw) (con_compress_86 hw G GS (pa0 := pa1) (px0 := px0) (px1 := px1) (px2 := px2) (pk0 := pk0) o1 hf3 (by omega) (hk0) (hk1) (hk2) (hk3) (hk4) (hk5) hc_px0 hc_px1 hc_px2) pd9 ?_
 intro vq2 h3 S4 q2 zh3
 rcases q2 with q2 | q2 | q2 | q2
 ·obtain ⟨r5, k6, rfl, Kh3, c7, br5, f8, rfl⟩ := q2
  have lr5 : (r5 : Nat) < h3.size := f8.lt
  refine Ow.Go.norm (S' := [r5, pa0]) (st' := [(.ref r5)]) (fun _ q => q) rfl ?_
  refine Ow.astore (pc' := 41) (Ls' := #[.val (.ref pa0), .val (.ref pa1), .val (.int 0), .val (.int 3), .val .null, .val (.ref r5)]) B e3_39 ?_
  refine Ow.aloadN (pc' := 42) B e3_41 ?_
  refine Ow.aload (pc' := 44) B e3_42 ?_
  refine Ow.iloadN (pc' := 45) B e3_44 ?_
  refine Ow.Go.old (fun o9 => ?_)
  refine Ow.callStatic (pc' := 48) (W := 1) (k' := 2) (n' := 9) (argsL := [(.ref r5), (.int 3)]) (rest := [(.ref pa0)]) B e3_45 (w45 hw) (w46 hw) (w40 hw) (w47 hw) (con_coderFromArrayLen_87 hw G GS (pa0 := r5) (px0 := px0) (px1 := px1) (px2 := px2) (pk0 := k6) o9 f8 (by omega) hc_px0 hc_px1 hc_px2) pd11 ?_
  intro vq10 h11 S12 q10 zh11
  obtain ⟨rfl, rfl, rfl⟩ := q10
  refine Ow.Go.nr (S' := [r5, pa0]) (st' := [(.int 1), (.ref pa0)]) ?_
  have f13 := hf1.keep Kh3 Ow.nin0
  have f14 := hf0.keep Kh3
  refine Ow.putfield (pc' := 51) (ty := .byte) B e3_48 (w27 hw) Via.refl f13 f14 (Or.inr ⟨(w23 hw), rfl, rfl⟩) (w7 hw) (Or.inl (by simp)) ?_
  intro h15 Wh15
  have f16 := hf2.keep Kh3 Ow.nin0
  have Kh15 := Keep.of_wr Wh15
  have zh15 := Kh15.1
  have f17 : Fld Z h15 pa0 "java/lang/String" "coder" "B" (.int 1) := f13.same Wh15
  have f18 : Fld Z h15 pa0 "java/lang/String" "value" "[B" .null := f16.other Wh15 (Or.inr (slot_ne (a0 := a0) (C := "java/lang/String") (t := (.array .byte)) (t' := .byte) (Or.inr (w22 hw)) (Or.inr (w23 hw)) (by decide) (by decide) (by decide)))
  refine Ow.aloadN (pc' := 52) B e3_51 ?_
  refine Ow.aload (pc' := 54) B e3_52 ?_
  have f19 := f14.keep Kh15
  refine Ow.putfield (pc' := 57) (ty := (.array .byte)) B e3_54 (w26 hw) Via.refl f18 f19 (Or.inr ⟨(w22 hw), rfl, rfl⟩) (w7 hw) (Or.inl (by simp)) ?_
  intro h20 Wh20
  have Kh20 := Keep.of_wr Wh20
  have zh20 := Kh20.1
  have f21 : Fld Z h20 pa0 "java/lang/String" "value" "[B" (.ref r5) := f18.same Wh20
  have f22 : Fld Z h20 pa0 "java/lang/String" "coder" "B" (.int 1) := f17.other Wh20 (Or.inr (slot_ne (a0 := a0) (C := "java/lang/String") (t := .byte) (t' := (.array .byte)) (Or.inr (w23 hw)) (Or.inr (w22 hw)) (by decide) (by decide) (by decide)))
  have f23 := f19.keep Kh20
  have f24 := f8.keep Kh15 (Ow.ninS (by omega) Ow.nin0)
  have f25 := f24.keep Kh20 (Ow.ninS (by omega) Ow.nin0)
  have s26 : Ow.Chs Z h20 pa0 r5 k6 [px0, px1, px2] := ⟨f23, f21, (Ow.allI ⟨(hk0), (hk1)⟩ (Ow.allI ⟨(hk2), (hk3)⟩ (Ow.allI ⟨(hk4), (hk5)⟩ Ow.allI0))), Or.inr ⟨f22, f25, px0, by simp, c7⟩⟩
  exact Ow.retV (S' := []) B e3_57 (⟨r5, k6, rfl, ((((Keep.refl _ [pa0]).trans Kh3 (fun _ q => nomatch q)).trans Kh15 (allS (Or.inl (by simp)) all0)).trans Kh20 (allS (Or.inl (by simp)) all0)), (by omega), s26, rfl⟩)
 ·obtain ⟨r27, k28, rfl, Kh3, c29, c30, br27, f31, rfl⟩ := q2
  have lr27 : (r27 : Nat) < h3.size := f31.lt
  refine Ow.Go.norm (S' := [r27, pa0]) (st' := [(.ref r27)]) (fun _ q => q) rfl ?_
  refine Ow.astore (pc' := 41) (Ls' := #[.val (.ref pa0), .val (.ref pa1), .val (.int 0), .val (.int 3), .val .null, .val (.ref r27)]) B e3_39 ?_
  refine Ow.aloadN (pc' := 42) B e3_41 ?_
  refine Ow.aload (pc' := 44) B e3_42 ?_
  refine Ow.iloadN (pc' := 45) B e3_44 ?_
  refine Ow.Go.old (fun o32 => ?_)
  refine Ow.callStatic (pc' := 48) (W := 1) (k' := 2) (n' := 9) (argsL := [(.ref r27), (.int 3)]) (rest := [(.ref pa0)]) B e3_45 (w45 hw) (w46 hw) (w40 hw) (w47 hw) (con_coderFromArrayLen_87 hw G GS (pa0 := r27) (px0 := px0) (px1 := px1) (px2 := px2) (pk0 := k28) o32 f31 (by omega) hc_px0 hc_px1 hc_px2) pd11 ?_
  intro vq33 h34 S35 q33 zh34
  obtain ⟨rfl, rfl, rfl⟩ := q33
  refine Ow.Go.nr (S' := [r27, pa0]) (st' := [(.int 1), (.ref pa0)]) ?_
  have f36 := hf1.keep Kh3 Ow.nin0
  have f37 := hf0.keep Kh3
  refine Ow.putfield (pc' := 51) (ty := .byte) B e3_48 (w27 hw) Via.refl f36 f37 (Or.inr ⟨(w23 hw), rfl, rfl⟩) (w7 hw) (Or.inl (by simp)) ?_
  intro h38 Wh38
  have f39 := hf2.keep Kh3 Ow.nin0
  have Kh38 := Keep.of_wr Wh38
  have zh38 := Kh38.1
  have f40 : Fld Z h38 pa0 "java/lang/String" "coder" "B" (.int 1) := f36.same Wh38
  have f41 : Fld Z h38 pa0 "java/lang/String" "value" "[B" .null := f39.other Wh38 (Or.inr (slot_ne (a0 := a0) (C := "java/lang/String") (t := (.array .byte)) (t' := .byte) (Or.inr (w22 hw)) (Or.inr (w23 hw)) (by decide) (by decide) (by decide)))
  refine Ow.aloadN (pc' := 52) B e3_51 ?_
  refine Ow.aload (pc' := 54) B e3_52 ?_
  have f42 := f37.keep Kh38
  refine Ow.putfield (pc' := 57) (ty := (.array .byte)) B e3_54 (w26 hw) Via.refl f41 f42 (Or.inr ⟨(w22 hw), rfl, rfl⟩) (w7 hw) (Or.inl (by simp)) ?_
  intro h43 Wh43
  have Kh43 := Keep.of_wr Wh43
  have zh43 := Kh43.1
  have f44 : Fld Z h43 pa0 "java/lang/String" "value" "[B" (.ref r27) := f41.same Wh43
  have f45 : Fld Z h43 pa0 "java/lang/String" "coder" "B" (.int 1) := f40.other Wh43 (Or.inr (slot_ne (a0 := a0) (C := "java/lang/String") (t := .byte) (t' := (.array .byte)) (Or.inr (w23 hw)) (Or.inr (w22 hw)) (by decide) (by decide) (by decide)))
  have f46 := f42.keep Kh43
  have f47 := f31.keep Kh38 (Ow.ninS (by omega) Ow.nin0)
  have f48 := f47.keep Kh43 (Ow.ninS (by omega) Ow.nin0)
  have s49 : Ow.Chs Z h43 pa0 r27 k28 [px0, px1, px2] := ⟨f46, f44, (Ow.allI ⟨(hk0), (hk1)⟩ (Ow.allI ⟨(hk2), (hk3)⟩ (Ow.allI ⟨(hk4), (hk5)⟩ Ow.allI0))), Or.inr ⟨f45, f48, px1, by simp, c30⟩⟩
  exact Ow.retV (S' := []) B e3_57 (⟨r27, k28, rfl, ((((Keep.refl _ [pa0]).trans Kh3 (fun _ q => nomatch q)).trans Kh38 (allS (Or.inl (by simp)) all0)).trans Kh43 (allS (Or.inl (by simp)) all0)), (by omega), s49, rfl⟩)
 ·obtain ⟨r50, k51, rfl, Kh3, c52, c53, c54, br50, f55, rfl⟩ := q2
  have lr50 : (r50 : Nat) < h3.size := f55.lt
  refine Ow.Go.norm (S' := [r50, pa0]) (st' := [(.ref r50)]) (fun _ q => q) rfl ?_
  refine Ow.astore (pc' := 41) (Ls' := #[.val (.ref pa0), .val (.ref pa1), .val (.int 0), .val (.int 3), .val .null, .val (.ref r50)]) B e3_39 ?_
  refine Ow.aloadN (pc' := 42) B e3_41 ?_
  refine Ow.aload (pc' := 44) B e3_42 ?_
  refine Ow.iloadN (pc' := 45) B e3_44 ?_
  refine Ow.Go.old (fun o56 => ?_)
  refine Ow.callStatic (pc' := 48) (W := 1) (k' := 2) (n' := 9) (argsL := [(.ref r50), (.int 3)]) (rest := [(.ref pa0)]) B e3_45 (w45 hw) (w46 hw) (w40 hw) (w47 hw) (con_coderFromArrayLen_87 hw G GS (pa0 := r50) (px0 := px0) (px1 := px1) (px2 := px2) (pk0 := k51) o56 f55 (by omega) hc_px0 hc_px1 hc_px2) pd11 ?_
  intro vq57 h58 S59 q57 zh58
  obtain ⟨rfl, rfl, rfl⟩ := q57
  refine Ow.Go.nr (S' := [r50, pa0]) (st' := [(.int 1), (.ref pa0)]) ?_
  have f60 := hf1.keep Kh3 Ow.nin0
  have f61 := hf0.keep Kh3
  refine Ow.putfield (pc' := 51) (ty := .byte) B e3_48 (w27 hw) Via.refl f60 f61 (Or.inr ⟨(w23 hw), rfl, rfl⟩) (w7 hw) (Or.inl (by simp)) ?_
  intro h62 Wh62
  have f63 := hf2.keep Kh3 Ow.nin0
  have Kh62 := Keep.of_wr Wh62
  have zh62 := Kh62.1
  have f64 : Fld Z h62 pa0 "java/lang/String" "coder" "B" (.int 1) := f60.same Wh62
  have f65 : Fld Z h62 pa0 "java/lang/String" "value" "[B" .null := f63.other Wh62 (Or.inr (slot_ne (a0 := a0) (C := "java/lang/String") (t := (.array .byte)) (t' := .byte) (Or.inr (w22 hw)) (Or.inr (w23 hw)) (by decide) (by decide) (by decide)))
  refine Ow.aloadN (pc' := 52) B e3_51 ?_
  refine Ow.aload (pc' := 54) B e3_52 ?_
  have f66 := f61.keep Kh62
  refine Ow.putfield (pc' := 57) (ty := (.array .byte)) B e3_54 (w26 hw) Via.refl f65 f66 (Or.inr ⟨(w22 hw), rfl, rfl⟩) (w7 hw) (Or.inl (by simp)) ?_
  intro h67 Wh67
  have Kh67 := Keep.of_wr Wh67
  have zh67 := Kh67.1
  have f68 : Fld Z h67 pa0 "java/lang/String" "value" "[B" (.ref r50) := f65.same Wh67
  have f69 : Fld Z h67 pa0 "java/lang/String" "coder" "B" (.int 1) := f64.other Wh67 (Or.inr (slot_ne (a0 := a0) (C := "java/lang/String") (t := .byte) (t' := (.array .byte)) (Or.inr (w23 hw)) (Or.inr (w22 hw)) (by decide) (by decide) (by decide)))
  have f70 := f66.keep Kh67
  have f71 := f55.keep Kh62 (Ow.ninS (by omega) Ow.nin0)
  have f72 := f71.keep Kh67 (Ow.ninS (by omega) Ow.nin0)
  have s73 : Ow.Chs Z h67 pa0 r50 k51 [px0, px1, px2] := ⟨f70, f68, (Ow.allI ⟨(hk0), (hk1)⟩ (Ow.allI ⟨(hk2), (hk3)⟩ (Ow.allI ⟨(hk4), (hk5)⟩ Ow.allI0))), Or.inr ⟨f69, f72, px2, by simp, c54⟩⟩
  exact Ow.retV (S' := []) B e3_57 (⟨r50, k51, rfl, ((((Keep.refl _ [pa0]).trans Kh3 (fun _ q => nomatch q)).trans Kh62 (allS (Or.inl (by simp)) all0)).trans Kh67 (allS (Or.inl (by simp)) all0)), (by omega), s73, rfl⟩)
 ·obtain ⟨r74, k75, rfl, Kh3, c76, c77, c78, br74, f79, rfl⟩ := q2
  have lr74 : (r74 : Nat) < h3.size := f79.lt
  refine Ow.Go.norm (S' := [r74, pa0]) (st' := [(.ref r74)]) (fun _ q => q) rfl ?_
  refine Ow.astore (pc' := 41) (Ls' := #[.val (.ref pa0), .val (.ref pa1), .val (.int 0), .val (.int 3), .val .null, .val (.ref r74)]) B e3_39 ?_
  refine Ow.aloadN (pc' := 42) B e3_41 ?_
  refine Ow.aload (pc' := 44) B e3_42 ?_
  refine Ow.iloadN (pc' := 45) B e3_44 ?_
  refine Ow.Go.old (fun o80 => ?_)
  refine Ow.callStatic (pc' := 48) (W := 1) (k' := 2) (n' := 9) (argsL := [(.ref r74), (.int 3)]) (rest := [(.ref pa0)]) B e3_45 (w45 hw) (w46 hw) (w40 hw) (w47 hw) (con_coderFromArrayLen_88 hw G GS (pa0 := r74) (px0 := px0) (px1 := px1) (px2 := px2) (pk0 := k75) o80 f79 (by omega) hc_px0 hc_px1 hc_px2) pd11 ?_
  intro vq81 h82 S83 q81 zh82
  obtain ⟨rfl, rfl, rfl⟩ := q81
  refine Ow.Go.nr (S' := [r74, pa0]) (st' := [(.int 0), (.ref pa0)]) ?_
  have f84 := hf1.keep Kh3 Ow.nin0
  have f85 := hf0.keep Kh3
  refine Ow.putfield (pc' := 51) (ty := .byte) B e3_48 (w27 hw) Via.refl f84 f85 (Or.inr ⟨(w23 hw), rfl, rfl⟩) (w7 hw) (Or.inl (by simp)) ?_
  intro h86 Wh86
  have f87 := hf2.keep Kh3 Ow.nin0
  have Kh86 := Keep.of_wr Wh86
  have zh86 := Kh86.1
  have f88 : Fld Z h86 pa0 "java/lang/String" "coder" "B" (.int 0) := f84.same Wh86
  have f89 : Fld Z h86 pa0 "java/lang/String" "value" "[B" .null := f87.other Wh86 (Or.inr (slot_ne (a0 := a0) (C := "java/lang/String") (t := (.array .byte)) (t' := .byte) (Or.inr (w22 hw)) (Or.inr (w23 hw)) (by decide) (by decide) (by decide)))
  refine Ow.aloadN (pc' := 52) B e3_51 ?_
  refine Ow.aload (pc' := 54) B e3_52 ?_
  have f90 := f85.keep Kh86
  refine Ow.putfield (pc' := 57) (ty := (.array .byte)) B e3_54 (w26 hw) Via.refl f89 f90 (Or.inr ⟨(w22 hw), rfl, rfl⟩) (w7 hw) (Or.inl (by simp)) ?_
  intro h91 Wh91
  have Kh91 := Keep.of_wr Wh91
  have zh91 := Kh91.1
  have f92 : Fld Z h91 pa0 "java/lang/String" "value" "[B" (.ref r74) := f89.same Wh91
  have f93 : Fld Z h91 pa0 "java/lang/String" "coder" "B" (.int 0) := f88.other Wh91 (Or.inr (slot_ne (a0 := a0) (C := "java/lang/String") (t := .byte) (t' := (.array .byte)) (Or.inr (w23 hw)) (Or.inr (w22 hw)) (by decide) (by decide) (by decide)))
  have f94 := f90.keep Kh91
  have f95 := f79.keep Kh86 (Ow.ninS (by omega) Ow.nin0)
  have f96 := f95.keep Kh91 (Ow.ninS (by omega) Ow.nin0)
  have s97 : Ow.Chs Z h91 pa0 r74 k75 [px0, px1, px2] := ⟨f94, f92, (Ow.allI ⟨(hk0), (hk1)⟩ (Ow.allI ⟨(hk2), (hk3)⟩ (Ow.allI ⟨(hk4), (hk5)⟩ Ow.allI0))), Or.inl ⟨f93, f96, (Ow.allI (c76) (Ow.allI (c77) (Ow.allI (c78) Ow.allI0)))⟩⟩
  exact Ow.retV (S' := []) B e3_57 (⟨r74, k75, rfl, ((((Keep.refl _ [pa0]).trans Kh3 (fun _ q => nomatch q)).trans Kh86 (allS (Or.inl (by simp)) all0)).trans Kh91 (allS (Or.inl (by simp)) all0)), (by omega), s97, rfl⟩)
set_option maxRecDepth 65536 in
set_option maxHeartbeats 40000000 in
theorem con_init_90 (hw : Hw a0 Z) (G : Ow.Glo Z cz sf) (GS : GlS Z) {pa0 : Nat} {pa1 : Nat} {px0 : Int32} {px1 : Int32} {px2 : Int32} {pk0 : ClassId} {h0 : Heap} (O0 : Old Z n0 h0) (hf0 : Exa Z h0 pa0 "java/lang/String") (hf1 : Fld Z h0 pa0 "java/lang/String" "coder" "B" (.int 0)) (hf2 : Fld Z h0 pa0 "java/lang/String" "value" "[B" .null) (hf3 : Arv Z h0 pa1 pk0 .char (3 : Int32) [(.int px0), (.int px1), (.int px2)] (.int 0)) (hn0 : n0 ≤ pa0) (hn1 : n0 ≤ pa1) (hk0 : ¬ (px0 < (0 : Int32))) (hk1 : ¬ ((65535 : Int32) < px0)) (hk2 : ¬ (px1 < (0 : Int32))) (hk3 : ¬ ((65535 : Int32) < px1)) (hk4 : ¬ (px2 < (0 : Int32))) (hk5 : ¬ ((65535 : Int32) < px2)) (hc_px0 : nar .char px0 = px0) (hc_px1 : nar .char px1 = px1) (hc_px2 : nar .char px2 = px2) :
    Ow.Con l Z EL1 n0 my1 jdk_42_method_3_code 2 (Option.none : Option Jvm.ClassFile.FieldType) [] ({ frames := 5, cells := 2, slots := 9, locals := 74 } : Room) #[(.ref pa0), (.ref pa1)] [pa0] h0 (fun v h S' => (∃ r0 : Nat, ∃ k0 : ClassId, v = none ∧ Keep h0 h [pa0] ∧ h0.size ≤ r0 ∧ Ow.Chs Z h pa0 r0 k0 [px0, px1, px2] ∧ S' = [])) := by
 refine Ow.Con.enter (Ls := #[.val (.ref pa0), .val (.ref pa1)]) (plainFor_of_name pn1) O0 (hEW hw) (hSA hw) ?_
 intro p e s m below meth c B
 have z0 := Ow.old_le O0
 have lpa0 : (pa0 : Nat) < h0.size := hf0.lt
 have lpa1 : (pa1 : Nat) < h0.size := hf3.lt
 refine Ow.aloadN (pc' := 1) B e2_0 ?_
 refine Ow.aloadN (pc' := 2) B e2_1 ?_
 refine Ow.iconst (pc' := 3) (x := 0) B e2_2 ?_
 refine Ow.aloadN (pc' := 4) B e2_3 ?_
 refine Ow.arrlen (pc' := 5) B e2_4 hf3 ?_
 refine Ow.aconstNull (pc' := 6) B e2_5 ?_
 refine Ow.Go.old (fun o1 => ?_)
 refine Ow.callInit (pc' := 9) (W := 0) (k' := 2) (n' := 9) (argsL := [(.ref pa1), (.int 0), (.int 3), .null]) (rest := []) B e2_6 (w13 hw) (w14 hw) (w8 hw) (w16 hw) (con_init_89 hw G GS (pa0 := pa0) (pa1 := pa1) (px0 := px0) (px1 := px1) (px2 := px2) (pk0 := pk0) o1 hf0 hf1 hf2 hf3 (by omega) (by omega) (hk0) (hk1) (hk2) (hk3) (hk4) (hk5) hc_px0 hc_px1 hc_px2) pd0 ?_
 intro vq2 h3 S4 q2 zh3
 obtain ⟨r5, k6, rfl, Kh3, br5, f7, rfl⟩ := q2
 have lr5 : (r5 : Nat) < h3.size := f7.ltt
 refine Ow.Go.nr (S' := [pa0]) (st' := []) ?_
 exact Ow.retV (S' := []) B e2_9 (⟨r5, k6, rfl, ((Keep.refl _ [pa0]).trans Kh3 (allS (Or.inl (by simp)) all0)), (by omega), f7, rfl⟩)
set_option maxRecDepth 65536 in
set_option maxHeartbeats 40000000 in
theorem con_make_91 (hw : Hw a0 Z) (G : Ow.Glo Z cz sf) (GS : GlS Z) {px0 : Int32} {px1 : Int32} {px2 : Int32} {px3 : Int32} {h0 : Heap} (O0 : Old Z n0 h0) (hk0 : ¬ (px0 < (0 : Int32))) (hk1 : ¬ ((65535 : Int32) < px0)) (hk2 : ¬ (px1 < (0 : Int32))) (hk3 : ¬ ((65535 : Int32) < px1)) (hk4 : ¬ (px2 < (0 : Int32))) (hk5 : ¬ ((65535 : Int32) < px2)) (hc_px0 : nar .char px0 = px0) (hc_px1 : nar .char px1 = px1) (hc_px2 : nar .char px2 = px2) (hc_px3 : nar .char px3 = px3) :
    Ow.Con l Z EL1 n0 my2 method_4_code 6 (Option.some (Jvm.ClassFile.FieldType.object "java/lang/String")) [] ({ frames := 6, cells := 4, slots := 16, locals := 88 } : Room) #[(.int 3), (.int px0), (.int px1), (.int px2), (.int px3)] [] h0 (fun v h S' => (∃ r0 : Nat, ∃ r1 : Nat, ∃ k0 : ClassId, v = some (.ref r0) ∧ Keep h0 h [] ∧ h0.size ≤ r0 ∧ h0.size ≤ r1 ∧ r1 ≠ r0 ∧ Ow.Chs Z h r0 r1 k0 [px0, px1, px2] ∧ S' = [])) := by
 refine Ow.Con.enter (Ls := #[.val (.int 3), .val (.int px0), .val (.int px1), .val (.int px2), .val (.int px3), .unset]) (plainFor_of_name pn0) O0 (hEW hw) (hSA hw) ?_
 intro p e s m below meth c B
 have z0 := Ow.old_le O0
 refine Ow.iloadN (pc' := 1) B e1_0 ?_
 refine Ow.ifT (pc' := 15) B e1_1 (by decide) ?_
 refine Ow.iloadN (pc' := 16) B e1_15 ?_
 refine Ow.iconst (pc' := 17) (x := 1) B e1_16 ?_
 refine Ow.icmpT (pc' := 40) B e1_17 (by decide) ?_
 refine Ow.iloadN (pc' := 41) B e1_40 ?_
 refine Ow.iconst (pc' := 42) (x := 2) B e1_41 ?_
 refine Ow.icmpT (pc' := 70) B e1_42 (by decide) ?_
 refine Ow.iloadN (pc' := 71) B e1_70 ?_
 refine Ow.iconst (pc' := 72) (x := 3) B e1_71 ?_
 refine Ow.icmpF (pc' := 75) B e1_72 (by decide) ?_
 refine Ow.iconst (pc' := 76) (x := 3) B e1_75 ?_
 refine Ow.newArr (pc' := 78) (k' := 1) (n' := 3) (cap := 3) B e1_76 (w9 hw) (by decide) (by decide) ?_
 intro h2 a1 ka1 ga1 ba1 Kh2 V0a1
 have zh2 := Kh2.1
 have la1 : (a1 : Nat) < h2.size := V0a1.lt
 have Va1 : Arv Z h2 a1 ka1 .char (3 : Int32) [(.int 0), (.int 0), (.int 0)] (.int 0) := V0a1.pad (pad_rep [] (.int 0) 3)
 refine Ow.astore (pc' := 80) (Ls' := #[.val (.int 3), .val (.int px0), .val (.int px1), .val (.int px2), .val (.int px3), .val (.ref a1)]) B e1_78 ?_
 refine Ow.aload (pc' := 82) B e1_80 ?_
 refine Ow.iconst (pc' := 83) (x := 0) B e1_82 ?_
 refine Ow.iloadN (pc' := 84) B e1_83 ?_
 refine Ow.castore (pc' := 85) (i := 0) B e1_84 Va1 ⟨by decide, by decide⟩ ?_
 intro h3 Kh3 V0h3
 have zh3 := Kh3.1
 have V4 : Arv Z h3 a1 ka1 .char (3 : Int32) [(.int px0), (.int 0), (.int 0)] (.int 0) := (by have e0 := V0h3; rw [show nar .char px0 = px0 from hc_px0] at e0; exact e0)
 refine Ow.aload (pc' := 87) B e1_85 ?_
 refine Ow.iconst (pc' := 88) (x := 1) B e1_87 ?_
 refine Ow.iloadN (pc' := 89) B e1_88 ?_
 refine Ow.castore (pc' := 90) (i := 1) B e1_89 V4 ⟨by decide, by decide⟩ ?_
 intro h5 Kh5 V0h5
 have zh5 := Kh5.1
 have V6 : Arv Z h5 a1 ka1 .char (3 : Int32) [(.int px0), (.int px1), (.int 0)] (.int 0) := (by have e0 := V0h5; rw [show nar .char px1 = px1 from hc_px1] at e0; exact e0)
 refine Ow.aload (pc' := 92) B e1_90 ?_
 refine Ow.iconst (pc' := 93) (x := 2) B e1_92 ?_
 refine Ow.iloadN (pc' := 94) B e1_93 ?_
 refine Ow.castore (pc' := 95) (i := 2) B e1_94 V6 ⟨by decide, by decide⟩ ?_
 intro h7 Kh7 V0h7
 have zh7 := Kh7.1
 have V8 : Arv Z h7 a1 ka1 .char (3 : Int32) [(.int px0), (.int px1), (.int px2)] (.int 0) := (by have e0 := V0h7; rw [show nar .char px2 = px2 from hc_px2] at e0; exact e0)
 refine Ow.newObj (pc' := 98) (k' := 2) (n' := 7) B e1_95 (w6 hw) (w7 hw) (w8 hw) ?_
 intro h10 a9 ga9 ba9 Kh10 Aa9 Da9
 have zh10 := Kh10.1
 have la9 : (a9 : Nat) < h10.size := Aa9.lt
 have f11 : Fld Z h10 a9 "java/lang/String" "value" "[B" .null := Da9 (Or.inr (w22 hw)) (ty := (.array .byte)) (by decide)
 have f12 : Fld Z h10 a9 "java/lang/String" "coder" "B" (.int 0) := Da9 (Or.inr (w23 hw)) (ty := .byte) (by decide)
 refine Ow.dup (pc' := 99) B e1_98 ?_
 refine Ow.aload (pc' := 101) B e1_99 ?_
 refine Ow.Go.old (fun o13 => ?_)
 have f14 := V8.keep Kh10 Ow.nin0
 refine Ow.callInit (pc' := 104) (W := 1) (k' := 4) (n' := 16) (argsL := [(.ref a1)]) (rest := [(.ref a9)]) B e1_101 (w10 hw) (w11 hw) (w8 hw) (w12 hw) (con_init_90 hw G GS (pa0 := a9) (pa1 := a1) (px0 := px0) (px1 := px1) (px2 := px2) (pk0 := ka1) o13 Aa9 f12 f11 f14 (by omega) (by omega) (hk0) (hk1) (hk2) (hk3) (hk4) (hk5) hc_px0 hc_px1 hc_px2) pd1 ?_
 intro vq15 h16 S17 q15 zh16
 obtain ⟨r18, k19, rfl, Kh16, br18, f20, rfl⟩ := q15
 have lr18 : (r18 : Nat) < h16.size := f20.ltt
 refine Ow.Go.nr (S' := [a9, a1]) (st' := [(.ref a9)]) ?_
 exact Ow.retA (S' := []) (t := (.object "java/lang/String")) B e1_104 (⟨a9, r18, k19, rfl, (((((((Keep.refl _ []).trans Kh2 (fun _ q => nomatch q)).trans Kh3 (allS (Or.inr (by omega)) all0)).trans Kh5 (allS (Or.inr (by omega)) all0)).trans Kh7 (allS (Or.inr (by omega)) all0)).trans Kh10 (fun _ q => nomatch q)).trans Kh16 (allS (Or.inr (by omega)) all0)), (by omega), (by omega), (by omega), f20, rfl⟩)
set_option maxRecDepth 65536 in
set_option maxHeartbeats 40000000 in
theorem con_isEmpty_92 (hw : Hw a0 Z) (G : Ow.Glo Z cz sf) (GS : GlS Z) {pa0 : Nat} {pa1 : Nat} {px0 : Int32} {px1 : Int32} {px2 : Int32} {pk0 : ClassId} {h0 : Heap} (O0 : Old Z n0 h0) (hf0 : Ow.Chs Z h0 pa0 pa1 pk0 [px0, px1, px2]) (hn0 : n0 ≤ pa0) (hn1 : n0 ≤ pa1) (hc_px0 : nar .char px0 = px0) (hc_px1 : nar .char px1 = px1) (hc_px2 : nar .char px2 = px2) :
    Ow.Con l Z EL1 n0 my3 jdk_42_method_55_code 1 (Option.some Jvm.ClassFile.FieldType.boolean) [] ({ frames := 0, cells := 0, slots := 0, locals := 0 } : Room) #[(.ref pa0)] [] h0 (fun v h S' => (v = some (.int 0) ∧ h = h0 ∧ S' = [])) := by
 rcases hf0.2.2.2 with ⟨oc_hf0, oa_hf0, ol_hf0⟩ | ⟨oc_hf0, oa_hf0, ou_hf0⟩
 ·refine Ow.Con.enter (Ls := #[.val (.ref pa0)]) (plainFor_of_name pn1) O0 (hEW hw) (hSA hw) ?_
  intro p e s m below meth c B
  have z0 := Ow.old_le O0
  have oE_hf0 := hf0.1
  have oV_hf0 := hf0.2.1
  have oR_hf0 := hf0.2.2.1
  have oA_hf0 : Arv Z h0 pa1 pk0 .byte (3 : Int32) [(.int px0.toInt8.toInt32), (.int px1.toInt8.toInt32), (.int px2.toInt8.toInt32)] (.int 0) := oa_hf0
  have lpa0 : (pa0 : Nat) < h0.size := hf0.lt
  have lpa1 : (pa1 : Nat) < h0.size := oA_hf0.lt
  have lpa1 : (pa1 : Nat) < h0.size := hf0.ltt
  refine Ow.aloadN (pc' := 1) B e4_0 ?_
  refine Ow.getfield (pc' := 4) B e4_1 (w26 hw) Via.refl oV_hf0 ?_
  refine Ow.arrlen (pc' := 5) B e4_4 oA_hf0 ?_
  refine Ow.ifT (pc' := 12) B e4_5 (by decide) ?_
  refine Ow.iconst (pc' := 13) (x := 0) B e4_12 ?_
  exact Ow.retI (S' := []) (t := .boolean) B e4_13 (⟨rfl, rfl, rfl⟩)
 ·refine Ow.Con.enter (Ls := #[.val (.ref pa0)]) (plainFor_of_name pn1) O0 (hEW hw) (hSA hw) ?_
  intro p e s m below meth c B
  have z0 := Ow.old_le O0
  have oE_hf0 := hf0.1
  have oV_hf0 := hf0.2.1
  have oR_hf0 := hf0.2.2.1
  have oA_hf0 : Arv Z h0 pa1 pk0 .byte (6 : Int32) [(.int px0.toInt8.toInt32), (.int (px0 >>> ((8 : Int32) &&& 31)).toInt8.toInt32), (.int px1.toInt8.toInt32), (.int (px1 >>> ((8 : Int32) &&& 31)).toInt8.toInt32), (.int px2.toInt8.toInt32), (.int (px2 >>> ((8 : Int32) &&& 31)).toInt8.toInt32)] (.int 0) := oa_hf0
  have lpa0 : (pa0 : Nat) < h0.size := hf0.lt
  have lpa1 : (pa1 : Nat) < h0.size := oA_hf0.lt
  have lpa1 : (pa1 : Nat) < h0.size := hf0.ltt
  refine Ow.aloadN (pc' := 1) B e4_0 ?_
  refine Ow.getfield (pc' := 4) B e4_1 (w26 hw) Via.refl oV_hf0 ?_
  refine Ow.arrlen (pc' := 5) B e4_4 oA_hf0 ?_
  refine Ow.ifT (pc' := 12) B e4_5 (by decide) ?_
  refine Ow.iconst (pc' := 13) (x := 0) B e4_12 ?_
  exact Ow.retI (S' := []) (t := .boolean) B e4_13 (⟨rfl, rfl, rfl⟩)
set_option maxRecDepth 65536 in
set_option maxHeartbeats 40000000 in
theorem con_length_93 (hw : Hw a0 Z) (G : Ow.Glo Z cz sf) (GS : GlS Z) {pa0 : Nat} {pa1 : Nat} {px0 : Int32} {px1 : Int32} {px2 : Int32} {pk0 : ClassId} {h0 : Heap} (O0 : Old Z n0 h0) (hf0 : Ow.Chs Z h0 pa0 pa1 pk0 [px0, px1, px2]) (hn0 : n0 ≤ pa0) (hn1 : n0 ≤ pa1) (hc_px0 : nar .char px0 = px0) (hc_px1 : nar .char px1 = px1) (hc_px2 : nar .char px2 = px2) :
    Ow.Con l Z EL1 n0 my16 jdk_42_method_54_code 1 (Option.some Jvm.ClassFile.FieldType.int) [] ({ frames := 1, cells := 0, slots := 0, locals := 13 } : Room) #[(.ref pa0)] [] h0 (fun v h S' => (v = some (.int 3) ∧ h = h0 ∧ S' = [])) := by
 rcases hf0.2.2.2 with ⟨oc_hf0, oa_hf0, ol_hf0⟩ | ⟨oc_hf0, oa_hf0, ou_hf0⟩
 ·refine Ow.Con.enter (Ls := #[.val (.ref pa0)]) (plainFor_of_name pn1) O0 (hEW hw) (hSA hw) ?_
  intro p e s m below meth c B
  have z0 := Ow.old_le O0
  have oE_hf0 := hf0.1
  have oV_hf0 := hf0.2.1
  have oR_hf0 := hf0.2.2.1
  have oA_hf0 : Arv Z h0 pa1 pk0 .byte (3 : Int32) [(.int px0.toInt8.toInt32), (.int px1.toInt8.toInt32), (.int px2.toInt8.toInt32)] (.int 0) := oa_hf0
  have lpa0 : (pa0 : Nat) < h0.size := hf0.lt
  have lpa1 : (pa1 : Nat) < h0.size := oA_hf0.lt
  have lpa1 : (pa1 : Nat) < h0.size := hf0.ltt
  refine Ow.aloadN (pc' := 1) B e15_0 ?_
  refine Ow.getfield (pc' := 4) B e15_1 (w26 hw) Via.refl oV_hf0 ?_
  refine Ow.arrlen (pc' := 5) B e15_4 oA_hf0 ?_
  refine Ow.aloadN (pc' := 6) B e15_5 ?_
  refine Ow.Go.old (fun o1 => ?_)
  refine Ow.callVirtual (pc' := 9) (W := 1) (k' := 0) (n' := 0) (argsL := []) (rest := [(.int 3)]) (K := "java/lang/String") B e15_6 (w56 hw) (w57 hw) (w59 hw) (w59 hw) (w58 hw) (w8 hw) (w60 hw) oE_hf0 (con_coder_21 hw G GS (pa0 := pa0) o1 oc_hf0 (by omega)) pd13 ?_
  intro vq2 h3 S4 q2 zh3
  obtain ⟨rfl, rfl, rfl⟩ := q2
  refine Ow.Go.nr (S' := []) (st' := [(.int 0), (.int 3)]) ?_
  refine Ow.ishr (pc' := 10) (z := 3) B e15_9 ?_
  exact Ow.retI (S' := []) (t := .int) B e15_10 (⟨rfl, rfl, rfl⟩)
 ·refine Ow.Con.enter (Ls := #[.val (.ref pa0)]) (plainFor_of_name pn1) O0 (hEW hw) (hSA hw) ?_
  intro p e s m below meth c B
  have z0 := Ow.old_le O0
  have oE_hf0 := hf0.1
  have oV_hf0 := hf0.2.1
  have oR_hf0 := hf0.2.2.1
  have oA_hf0 : Arv Z h0 pa1 pk0 .byte (6 : Int32) [(.int px0.toInt8.toInt32), (.int (px0 >>> ((8 : Int32) &&& 31)).toInt8.toInt32), (.int px1.toInt8.toInt32), (.int (px1 >>> ((8 : Int32) &&& 31)).toInt8.toInt32), (.int px2.toInt8.toInt32), (.int (px2 >>> ((8 : Int32) &&& 31)).toInt8.toInt32)] (.int 0) := oa_hf0
  have lpa0 : (pa0 : Nat) < h0.size := hf0.lt
  have lpa1 : (pa1 : Nat) < h0.size := oA_hf0.lt
  have lpa1 : (pa1 : Nat) < h0.size := hf0.ltt
  refine Ow.aloadN (pc' := 1) B e15_0 ?_
  refine Ow.getfield (pc' := 4) B e15_1 (w26 hw) Via.refl oV_hf0 ?_
  refine Ow.arrlen (pc' := 5) B e15_4 oA_hf0 ?_
  refine Ow.aloadN (pc' := 6) B e15_5 ?_
  refine Ow.Go.old (fun o1 => ?_)
  refine Ow.callVirtual (pc' := 9) (W := 1) (k' := 0) (n' := 0) (argsL := []) (rest := [(.int 6)]) (K := "java/lang/String") B e15_6 (w56 hw) (w57 hw) (w59 hw) (w59 hw) (w58 hw) (w8 hw) (w60 hw) oE_hf0 (con_coder_22 hw G GS (pa0 := pa0) o1 oc_hf0 (by omega)) pd13 ?_
  intro vq2 h3 S4 q2 zh3
  obtain ⟨rfl, rfl, rfl⟩ := q2
  refine Ow.Go.nr (S' := []) (st' := [(.int 1), (.int 6)]) ?_
  refine Ow.ishr (pc' := 10) (z := 3) B e15_9 ?_
  exact Ow.retI (S' := []) (t := .int) B e15_10 (⟨rfl, rfl, rfl⟩)
set_option maxRecDepth 65536 in
set_option maxHeartbeats 40000000 in
theorem con_charAt_94 (hw : Hw a0 Z) (G : Ow.Glo Z cz sf) (GS : GlS Z) {pa0 : Nat} {px0 : Int32} {px1 : Int32} {px2 : Int32} {pk0 : ClassId} {h0 : Heap} (O0 : Old Z n0 h0) (hf0 : Arv Z h0 pa0 pk0 .byte (3 : Int32) [(.int px0.toInt8.toInt32), (.int px1.toInt8.toInt32), (.int px2.toInt8.toInt32)] (.int 0)) (hn0 : n0 ≤ pa0) (hk0 : ¬ (px0 < (0 : Int32))) (hk1 : ¬ ((255 : Int32) < px0)) (hc_px0 : nar .char px0 = px0) (hc_px1 : nar .char px1 = px1) (hc_px2 : nar .char px2 = px2) :
    Ow.Con l Z EL1 n0 my20 jdk_43_method_2_code 2 (Option.some Jvm.ClassFile.FieldType.char) [] ({ frames := 2, cells := 0, slots := 0, locals := 27 } : Room) #[(.ref pa0), (.int 0)] [] h0 (fun v h S' => (v = some (.int px0) ∧ h = h0 ∧ S' = [])) := by
 refine Ow.Con.enter (Ls := #[.val (.ref pa0), .val (.int 0)]) (plainFor_of_name pn4) O0 (hEW hw) (hSA hw) ?_
 intro p e s m below meth c B
 have z0 := Ow.old_le O0
 have lpa0 : (pa0 : Nat) < h0.size := hf0.lt
 refine Ow.iloadN (pc' := 1) B e19_0 ?_
 refine Ow.aloadN (pc' := 2) B e19_1 ?_
 refine Ow.arrlen (pc' := 3) B e19_2 hf0 ?_
 refine Ow.Go.old (fun o1 => ?_)
 refine Ow.callStatic (pc' := 6) (W := 0) (k' := 0) (n' := 0) (argsL := [(.int 0), (.int 3)]) (rest := []) B e19_3 (w75 hw) (w76 hw) (w8 hw) (w77 hw) (con_checkIndex_26 hw G GS (px0 := (0 : Int32)) (px1 := (3 : Int32)) o1 (by decide) (by decide)) pd16 ?_
 intro vq2 h3 S4 q2 zh3
 obtain ⟨rfl, rfl, rfl⟩ := q2
 refine Ow.Go.nr (S' := []) (st' := []) ?_
 refine Ow.aloadN (pc' := 7) B e19_6 ?_
 refine Ow.iloadN (pc' := 8) B e19_7 ?_
 refine Ow.baload (pc' := 9) B e19_8 hf0 ⟨by decide, by decide⟩ rfl ?_
 refine Ow.sipush (pc' := 12) (x := 255) B e19_9 ?_
 refine Ow.iand (pc' := 13) (z := px0) (hz := (Ow.b255 (hk0) (hk1))) B e19_12 ?_
 refine Ow.i2c (pc' := 14) (z := px0) (hz := (Ow.c_id (hk0) (hk1))) B e19_13 ?_
 exact Ow.retI (S' := []) (t := .char) (hnn := (Ow.cnarrow (Ow.nar_id (hk0) (hk1)))) B e19_14 (⟨rfl, rfl, rfl⟩)
set_option maxRecDepth 65536 in
set_option maxHeartbeats 40000000 in
theorem con_length_95 (hw : Hw a0 Z) (G : Ow.Glo Z cz sf) (GS : GlS Z) {pa0 : Nat} {px0 : Int32} {px1 : Int32} {px2 : Int32} {pk0 : ClassId} {h0 : Heap} (O0 : Old Z n0 h0) (hf0 : Arv Z h0 pa0 pk0 .byte (6 : Int32) [(.int px0.toInt8.toInt32), (.int (px0 >>> ((8 : Int32) &&& 31)).toInt8.toInt32), (.int px1.toInt8.toInt32), (.int (px1 >>> ((8 : Int32) &&& 31)).toInt8.toInt32), (.int px2.toInt8.toInt32), (.int (px2 >>> ((8 : Int32) &&& 31)).toInt8.toInt32)] (.int 0)) (hn0 : n0 ≤ pa0) (hc_px0 : nar .char px0 = px0) (hc_px1 : nar .char px1 = px1) (hc_px2 : nar .char px2 = px2) :
    Ow.Con l Z EL1 n0 my21 jdk_52_method_6_code 1 (Option.some Jvm.ClassFile.FieldType.int) [] ({ frames := 0, cells := 0, slots := 0, locals := 0 } : Room) #[(.ref pa0)] [] h0 (fun v h S' => (v = some (.int 3) ∧ h = h0 ∧ S' = [])) := by
 refine Ow.Con.enter (Ls := #[.val (.ref pa0)]) (plainFor_of_name pn3) O0 (hEW hw) (hSA hw) ?_
 intro p e s m below meth c B
 have z0 := Ow.old_le O0
 have lpa0 : (pa0 : Nat) < h0.size := hf0.lt
 refine Ow.aloadN (pc' := 1) B e24_0 ?_
 refine Ow.arrlen (pc' := 2) B e24_1 hf0 ?_
 refine Ow.iconst (pc' := 3) (x := 1) B e24_2 ?_
 refine Ow.ishr (pc' := 4) (z := 3) B e24_3 ?_
 exact Ow.retI (S' := []) (t := .int) B e24_4 (⟨rfl, rfl, rfl⟩)
set_option maxRecDepth 65536 in
set_option maxHeartbeats 40000000 in
theorem con_checkIndex_96 (hw : Hw a0 Z) (G : Ow.Glo Z cz sf) (GS : GlS Z) {pa0 : Nat} {px0 : Int32} {px1 : Int32} {px2 : Int32} {pk0 : ClassId} {h0 : Heap} (O0 : Old Z n0 h0) (hf0 : Arv Z h0 pa0 pk0 .byte (6 : Int32) [(.int px0.toInt8.toInt32), (.int (px0 >>> ((8 : Int32) &&& 31)).toInt8.toInt32), (.int px1.toInt8.toInt32), (.int (px1 >>> ((8 : Int32) &&& 31)).toInt8.toInt32), (.int px2.toInt8.toInt32), (.int (px2 >>> ((8 : Int32) &&& 31)).toInt8.toInt32)] (.int 0)) (hn0 : n0 ≤ pa0) (hc_px0 : nar .char px0 = px0) (hc_px1 : nar .char px1 = px1) (hc_px2 : nar .char px2 = px2) :
    Ow.Con l Z EL1 n0 my22 jdk_52_method_91_code 2 (Option.none : Option Jvm.ClassFile.FieldType) [] ({ frames := 2, cells := 0, slots := 0, locals := 27 } : Room) #[(.int 0), (.ref pa0)] [] h0 (fun v h S' => (v = none ∧ h = h0 ∧ S' = [])) := by
 refine Ow.Con.enter (Ls := #[.val (.int 0), .val (.ref pa0)]) (plainFor_of_name pn3) O0 (hEW hw) (hSA hw) ?_
 intro p e s m below meth c B
 have z0 := Ow.old_le O0
 have lpa0 : (pa0 : Nat) < h0.size := hf0.lt
 refine Ow.iloadN (pc' := 1) B e23_0 ?_
 refine Ow.aloadN (pc' := 2) B e23_1 ?_
 refine Ow.Go.old (fun o1 => ?_)
 refine Ow.callStatic (pc' := 5) (W := 1) (k' := 0) (n' := 0) (argsL := [(.ref pa0)]) (rest := [(.int 0)]) B e23_2 (w139 hw) (w140 hw) (w40 hw) (w141 hw) (con_length_95 hw G GS (pa0 := pa0) (px0 := px0) (px1 := px1) (px2 := px2) (pk0 := pk0) o1 hf0 (by omega) hc_px0 hc_px1 hc_px2) pd17 ?_
 intro vq2 h3 S4 q2 zh3
 obtain ⟨rfl, rfl, rfl⟩ := q2
 refine Ow.Go.nr (S' := []) (st' := [(.int 3), (.int 0)]) ?_
 refine Ow.Go.old (fun o5 => ?_)
 refine Ow.callStatic (pc' := 8) (W := 0) (k' := 0) (n' := 0) (argsL := [(.int 0), (.int 3)]) (rest := []) B e23_5 (w142 hw) (w76 hw) (w8 hw) (w77 hw) (con_checkIndex_26 hw G GS (px0 := (0 : Int32)) (px1 := (3 : Int32)) o5 (by decide) (by decide)) pd16 ?_
 intro vq6 h7 S8 q6 zh7
 obtain ⟨rfl, rfl, rfl⟩ := q6
 refine Ow.Go.nr (S' := []) (st' := []) ?_
 exact Ow.retV (S' := []) B e23_8 (⟨rfl, rfl, rfl⟩)
set_option maxRecDepth 65536 in
set_option maxHeartbeats 40000000 in
theorem con_getChar_97 (hw : Hw a0 Z) (G : Ow.Glo Z cz sf) (GS : GlS Z) {pa0 : Nat} {px0 : Int32} {px1 : Int32} {px2 : Int32} {pk0 : ClassId} {h0 : Heap} (O0 : Old Z n0 h0) (hf0 : Arv Z h0 pa0 pk0 .byte (6 : Int32) [(.int px0.toInt8.toInt32), (.int (px0 >>> ((8 : Int32) &&& 31)).toInt8.toInt32), (.int px1.toInt8.toInt32), (.int (px1 >>> ((8 : Int32) &&& 31)).toInt8.toInt32), (.int px2.toInt8.toInt32), (.int (px2 >>> ((8 : Int32) &&& 31)).toInt8.toInt32)] (.int 0)) (hn0 : n0 ≤ pa0) (hk0 : ¬ (px0 < (0 : Int32))) (hk1 : ¬ ((65535 : Int32) < px0)) (hc_px0 : nar .char px0 = px0) (hc_px1 : nar .char px1 = px1) (hc_px2 : nar .char px2 = px2) :
    Ow.Con l Z EL1 n0 my10 jdk_52_method_5_code 2 (Option.some Jvm.ClassFile.FieldType.char) [] ({ frames := 0, cells := 0, slots := 0, locals := 0 } : Room) #[(.ref pa0), (.int 0)] [] h0 (fun v h S' => (v = some (.int px0) ∧ h = h0 ∧ S' = [])) := by
 refine Ow.Con.enter (Ls := #[.val (.ref pa0), .val (.int 0)]) (plainFor_of_name pn3) O0 (hEW hw) (hSA hw) ?_
 intro p e s m below meth c B
 have z0 := Ow.old_le O0
 have lpa0 : (pa0 : Nat) < h0.size := hf0.lt
 refine Ow.getstatic (pc' := 3) B e11_0 (w127 hw) Via.refl GS.1 ?_
 refine Ow.ifT (pc' := 28) B e11_3 (by decide) ?_
 refine Ow.iloadN (pc' := 29) B e11_28 ?_
 refine Ow.iconst (pc' := 30) (x := 1) B e11_29 ?_
 refine Ow.ishl (pc' := 31) (z := 0) B e11_30 ?_
 refine Ow.istoreN (pc' := 32) (Ls' := #[.val (.ref pa0), .val (.int 0)]) B e11_31 ?_
 refine Ow.aloadN (pc' := 33) B e11_32 ?_
 refine Ow.iloadN (pc' := 34) B e11_33 ?_
 refine Ow.iinc (pc' := 37) (y := 1) (Ls' := #[.val (.ref pa0), .val (.int 1)]) B e11_34 ?_
 refine Ow.baload (pc' := 38) B e11_37 hf0 ⟨by decide, by decide⟩ rfl ?_
 refine Ow.sipush (pc' := 41) (x := 255) B e11_38 ?_
 refine Ow.iand (pc' := 42) (z := (px0.toInt8.toInt32 &&& (255 : Int32))) B e11_41 ?_
 refine Ow.getstatic (pc' := 45) B e11_42 (w128 hw) Via.refl GS.2.1 ?_
 refine Ow.ishl (pc' := 46) (z := ((px0.toInt8.toInt32 &&& (255 : Int32)) <<< ((0 : Int32) &&& 31))) B e11_45 ?_
 refine Ow.aloadN (pc' := 47) B e11_46 ?_
 refine Ow.iloadN (pc' := 48) B e11_47 ?_
 refine Ow.baload (pc' := 49) B e11_48 hf0 ⟨by decide, by decide⟩ rfl ?_
 refine Ow.sipush (pc' := 52) (x := 255) B e11_49 ?_
 refine Ow.iand (pc' := 53) (z := ((px0 >>> ((8 : Int32) &&& 31)).toInt8.toInt32 &&& (255 : Int32))) B e11_52 ?_
 refine Ow.getstatic (pc' := 56) B e11_53 (w129 hw) Via.refl GS.2.2 ?_
 refine Ow.ishl (pc' := 57) (z := (((px0 >>> ((8 : Int32) &&& 31)).toInt8.toInt32 &&& (255 : Int32)) <<< ((8 : Int32) &&& 31))) B e11_56 ?_
 refine Ow.ior (pc' := 58) (z := px0) (hz := (Ow.u16 (hk0) (hk1))) B e11_57 ?_
 refine Ow.i2c (pc' := 59) (z := px0) (hz := hc_px0) B e11_58 ?_
 exact Ow.retI (S' := []) (t := .char) (hnn := (Ow.cnarrow hc_px0)) B e11_59 (⟨rfl, rfl, rfl⟩)
set_option maxRecDepth 65536 in
set_option maxHeartbeats 40000000 in
theorem con_charAt_98 (hw : Hw a0 Z) (G : Ow.Glo Z cz sf) (GS : GlS Z) {pa0 : Nat} {px0 : Int32} {px1 : Int32} {px2 : Int32} {pk0 : ClassId} {h0 : Heap} (O0 : Old Z n0 h0) (hf0 : Arv Z h0 pa0 pk0 .byte (6 : Int32) [(.int px0.toInt8.toInt32), (.int (px0 >>> ((8 : Int32) &&& 31)).toInt8.toInt32), (.int px1.toInt8.toInt32), (.int (px1 >>> ((8 : Int32) &&& 31)).toInt8.toInt32), (.int px2.toInt8.toInt32), (.int (px2 >>> ((8 : Int32) &&& 31)).toInt8.toInt32)] (.int 0)) (hn0 : n0 ≤ pa0) (hk0 : ¬ (px0 < (0 : Int32))) (hk1 : ¬ ((65535 : Int32) < px0)) (hc_px0 : nar .char px0 = px0) (hc_px1 : nar .char px1 = px1) (hc_px2 : nar .char px2 = px2) :
    Ow.Con l Z EL1 n0 my23 jdk_52_method_83_code 2 (Option.some Jvm.ClassFile.FieldType.char) [] ({ frames := 3, cells := 0, slots := 0, locals := 40 } : Room) #[(.ref pa0), (.int 0)] [] h0 (fun v h S' => (v = some (.int px0) ∧ h = h0 ∧ S' = [])) := by
 refine Ow.Con.enter (Ls := #[.val (.ref pa0), .val (.int 0)]) (plainFor_of_name pn3) O0 (hEW hw) (hSA hw) ?_
 intro p e s m below meth c B
 have z0 := Ow.old_le O0
 have lpa0 : (pa0 : Nat) < h0.size := hf0.lt
 refine Ow.iloadN (pc' := 1) B e22_0 ?_
 refine Ow.aloadN (pc' := 2) B e22_1 ?_
 refine Ow.Go.old (fun o1 => ?_)
 refine Ow.callStatic (pc' := 5) (W := 0) (k' := 0) (n' := 0) (argsL := [(.int 0), (.ref pa0)]) (rest := []) B e22_2 (w136 hw) (w137 hw) (w40 hw) (w138 hw) (con_checkIndex_96 hw G GS (pa0 := pa0) (px0 := px0) (px1 := px1) (px2 := px2) (pk0 := pk0) o1 hf0 (by omega) hc_px0 hc_px1 hc_px2) pd18 ?_
 intro vq2 h3 S4 q2 zh3
 obtain ⟨rfl, rfl, rfl⟩ := q2
 refine Ow.Go.nr (S' := []) (st' := []) ?_
 refine Ow.aloadN (pc' := 6) B e22_5 ?_
 refine Ow.iloadN (pc' := 7) B e22_6 ?_
 refine Ow.Go.old (fun o5 => ?_)
 refine Ow.callStatic (pc' := 10) (W := 0) (k' := 0) (n' := 0) (argsL := [(.ref pa0), (.int 0)]) (rest := []) B e22_7 (w130 hw) (w131 hw) (w40 hw) (w132 hw) (con_getChar_97 hw G GS (pa0 := pa0) (px0 := px0) (px1 := px1) (px2 := px2) (pk0 := pk0) o5 hf0 (by omega) (hk0) (hk1) hc_px0 hc_px1 hc_px2) pd10 ?_
 intro vq6 h7 S8 q6 zh7
 obtain ⟨rfl, rfl, rfl⟩ := q6
 refine Ow.Go.nr (S' := []) (st' := [(.int px0)]) ?_
 exact Ow.retI (S' := []) (t := .char) (hnn := (Ow.cnarrow hc_px0)) B e22_10 (⟨rfl, rfl, rfl⟩)
set_option maxRecDepth 65536 in
set_option maxHeartbeats 40000000 in
theorem con_charAt_99 (hw : Hw a0 Z) (G : Ow.Glo Z cz sf) (GS : GlS Z) {pa0 : Nat} {pa1 : Nat} {px0 : Int32} {px1 : Int32} {px2 : Int32} {pk0 : ClassId} {h0 : Heap} (O0 : Old Z n0 h0) (hf0 : Ow.Chs Z h0 pa0 pa1 pk0 [px0, px1, px2]) (hn0 : n0 ≤ pa0) (hn1 : n0 ≤ pa1) (hk0 : ¬ (px0 < (0 : Int32))) (hk1 : ¬ ((65535 : Int32) < px0)) (hc_px0 : nar .char px0 = px0) (hc_px1 : nar .char px1 = px1) (hc_px2 : nar .char px2 = px2) :
    Ow.Con l Z EL1 n0 my24 jdk_42_method_56_code 2 (Option.some Jvm.ClassFile.FieldType.char) [] ({ frames := 4, cells := 0, slots := 0, locals := 53 } : Room) #[(.ref pa0), (.int 0)] [] h0 (fun v h S' => (v = some (.int px0) ∧ h = h0 ∧ S' = [])) := by
 rcases hf0.2.2.2 with ⟨oc_hf0, oa_hf0, ol_hf0⟩ | ⟨oc_hf0, oa_hf0, ou_hf0⟩
 ·refine Ow.Con.enter (Ls := #[.val (.ref pa0), .val (.int 0)]) (plainFor_of_name pn1) O0 (hEW hw) (hSA hw) ?_
  intro p e s m below meth c B
  have z0 := Ow.old_le O0
  have oE_hf0 := hf0.1
  have oV_hf0 := hf0.2.1
  have oR_hf0 := hf0.2.2.1
  have oA_hf0 : Arv Z h0 pa1 pk0 .byte (3 : Int32) [(.int px0.toInt8.toInt32), (.int px1.toInt8.toInt32), (.int px2.toInt8.toInt32)] (.int 0) := oa_hf0
  have lpa0 : (pa0 : Nat) < h0.size := hf0.lt
  have lpa1 : (pa1 : Nat) < h0.size := oA_hf0.lt
  have lpa1 : (pa1 : Nat) < h0.size := hf0.ltt
  refine Ow.aloadN (pc' := 1) B e17_0 ?_
  refine Ow.Go.old (fun o1 => ?_)
  refine Ow.callVirtual (pc' := 4) (W := 0) (k' := 0) (n' := 0) (argsL := []) (rest := []) (K := "java/lang/String") B e17_1 (w66 hw) (w67 hw) (w69 hw) (w69 hw) (w68 hw) (w8 hw) (w70 hw) oE_hf0 (con_isLatin1_24 hw G GS (pa0 := pa0) o1 oc_hf0 (by omega)) pd3 ?_
  intro vq2 h3 S4 q2 zh3
  obtain ⟨rfl, rfl, rfl⟩ := q2
  refine Ow.Go.nr (S' := []) (st' := [(.int 1)]) ?_
  refine Ow.ifF (pc' := 7) B e17_4 (by decide) ?_
  refine Ow.aloadN (pc' := 8) B e17_7 ?_
  refine Ow.getfield (pc' := 11) B e17_8 (w26 hw) Via.refl oV_hf0 ?_
  refine Ow.iloadN (pc' := 12) B e17_11 ?_
  refine Ow.Go.old (fun o5 => ?_)
  refine Ow.callStatic (pc' := 15) (W := 0) (k' := 0) (n' := 0) (argsL := [(.ref pa1), (.int 0)]) (rest := []) B e17_12 (w71 hw) (w72 hw) (w73 hw) (w74 hw) (con_charAt_94 hw G GS (pa0 := pa1) (px0 := px0) (px1 := px1) (px2 := px2) (pk0 := pk0) o5 oA_hf0 (by omega) (hk0) (ol_hf0 px0 (by simp)) hc_px0 hc_px1 hc_px2) pd10 ?_
  intro vq6 h7 S8 q6 zh7
  obtain ⟨rfl, rfl, rfl⟩ := q6
  refine Ow.Go.nr (S' := []) (st' := [(.int px0)]) ?_
  exact Ow.retI (S' := []) (t := .char) (hnn := (Ow.cnarrow hc_px0)) B e17_15 (⟨rfl, rfl, rfl⟩)
 ·refine Ow.Con.enter (Ls := #[.val (.ref pa0), .val (.int 0)]) (plainFor_of_name pn1) O0 (hEW hw) (hSA hw) ?_
  intro p e s m below meth c B
  have z0 := Ow.old_le O0
  have oE_hf0 := hf0.1
  have oV_hf0 := hf0.2.1
  have oR_hf0 := hf0.2.2.1
  have oA_hf0 : Arv Z h0 pa1 pk0 .byte (6 : Int32) [(.int px0.toInt8.toInt32), (.int (px0 >>> ((8 : Int32) &&& 31)).toInt8.toInt32), (.int px1.toInt8.toInt32), (.int (px1 >>> ((8 : Int32) &&& 31)).toInt8.toInt32), (.int px2.toInt8.toInt32), (.int (px2 >>> ((8 : Int32) &&& 31)).toInt8.toInt32)] (.int 0) := oa_hf0
  have lpa0 : (pa0 : Nat) < h0.size := hf0.lt
  have lpa1 : (pa1 : Nat) < h0.size := oA_hf0.lt
  have lpa1 : (pa1 : Nat) < h0.size := hf0.ltt
  refine Ow.aloadN (pc' := 1) B e17_0 ?_
  refine Ow.Go.old (fun o1 => ?_)
  refine Ow.callVirtual (pc' := 4) (W := 0) (k' := 0) (n' := 0) (argsL := []) (rest := []) (K := "java/lang/String") B e17_1 (w66 hw) (w67 hw) (w69 hw) (w69 hw) (w68 hw) (w8 hw) (w70 hw) oE_hf0 (con_isLatin1_28 hw G GS (pa0 := pa0) o1 oc_hf0 (by omega)) pd3 ?_
  intro vq2 h3 S4 q2 zh3
  obtain ⟨rfl, rfl, rfl⟩ := q2
  refine Ow.Go.nr (S' := []) (st' := [(.int 0)]) ?_
  refine Ow.ifT (pc' := 16) B e17_4 (by decide) ?_
  refine Ow.aloadN (pc' := 17) B e17_16 ?_
  refine Ow.getfield (pc' := 20) B e17_17 (w26 hw) Via.refl oV_hf0 ?_
  refine Ow.iloadN (pc' := 21) B e17_20 ?_
  refine Ow.Go.old (fun o5 => ?_)
  refine Ow.callStatic (pc' := 24) (W := 0) (k' := 0) (n' := 0) (argsL := [(.ref pa1), (.int 0)]) (rest := []) B e17_21 (w133 hw) (w134 hw) (w40 hw) (w135 hw) (con_charAt_98 hw G GS (pa0 := pa1) (px0 := px0) (px1 := px1) (px2 := px2) (pk0 := pk0) o5 oA_hf0 (by omega) (hk0) (hk1) hc_px0 hc_px1 hc_px2) pd10 ?_
  intro vq6 h7 S8 q6 zh7
  obtain ⟨rfl, rfl, rfl⟩ := q6
  refine Ow.Go.nr (S' := []) (st' := [(.int px0)]) ?_
  exact Ow.retI (S' := []) (t := .char) (hnn := (Ow.cnarrow hc_px0)) B e17_24 (⟨rfl, rfl, rfl⟩)
set_option maxRecDepth 65536 in
set_option maxHeartbeats 40000000 in
theorem con_isToken_100 (hw : Hw a0 Z) (G : Ow.Glo Z cz sf) (GS : GlS Z) {pa0 : Nat} {pa1 : Nat} {px0 : Int32} {px1 : Int32} {px2 : Int32} {pk0 : ClassId} {h0 : Heap} (O0 : Old Z n0 h0) (hf0 : Ow.Chs Z h0 pa0 pa1 pk0 [px0, px1, px2]) (hn0 : n0 ≤ pa0) (hn1 : n0 ≤ pa1) (hk0 : ¬ (px0 < (0 : Int32))) (hk1 : ¬ ((65535 : Int32) < px0)) (hk2 : ¬ (tokP px0)) (hc_px0 : nar .char px0 = px0) (hc_px1 : nar .char px1 = px1) (hc_px2 : nar .char px2 = px2) :
    Ow.Con l Z EL1 n0 my4 prog_28_method_5_code 4 (Option.some Jvm.ClassFile.FieldType.boolean) [] ({ frames := 5, cells := 2, slots := 64, locals := 66 } : Room) #[(.ref pa0)] [] h0 (fun v h S' => (v = some (.int 0) ∧ Keep h0 h [] ∧ ¬ (symP px0) ∧ S' = [])) := by
 refine Ow.Con.enter (Ls := #[.val (.ref pa0), .unset, .unset, .unset]) (plainFor_of_name pn2) O0 (hEW hw) (hSA hw) ?_
 intro p e s m below meth c B
 have z0 := Ow.old_le O0
 have lpa0 : (pa0 : Nat) < h0.size := hf0.lt
 have lpa1 : (pa1 : Nat) < h0.size := hf0.ltt
 refine Ow.aloadN (pc' := 1) B e0_0 ?_
 refine Ow.Go.old (fun o1 => ?_)
 refine Ow.callVirtual (pc' := 4) (W := 0) (k' := 0) (n' := 0) (argsL := []) (rest := []) (K := "java/lang/String") B e0_1 (w32 hw) (w33 hw) (w35 hw) (w35 hw) (w34 hw) (w8 hw) (w36 hw) (hf0).1 (con_isEmpty_92 hw G GS (pa0 := pa0) (pa1 := pa1) (px0 := px0) (px1 := px1) (px2 := px2) (pk0 := pk0) o1 hf0 (by omega) (by omega) hc_px0 hc_px1 hc_px2) pd3 ?_
 intro vq2 h3 S4 q2 zh3
 obtain ⟨rfl, rfl, rfl⟩ := q2
 refine Ow.Go.nr (S' := []) (st' := [(.int 0)]) ?_
 refine Ow.ifT (pc' := 9) B e0_4 (by decide) ?_
 refine Ow.iconst (pc' := 10) (x := 0) B e0_9 ?_
 refine Ow.istoreN (pc' := 11) (Ls' := #[.val (.ref pa0), .val (.int 0), .unset, .unset]) B e0_10 ?_
 refine Ow.iloadN (pc' := 12) B e0_11 ?_
 refine Ow.aloadN (pc' := 13) B e0_12 ?_
 refine Ow.Go.old (fun o5 => ?_)
 refine Ow.callVirtual (pc' := 16) (W := 1) (k' := 0) (n' := 0) (argsL := []) (rest := [(.int 0)]) (K := "java/lang/String") B e0_13 (w51 hw) (w52 hw) (w54 hw) (w54 hw) (w53 hw) (w8 hw) (w55 hw) (hf0).1 (con_length_93 hw G GS (pa0 := pa0) (pa1 := pa1) (px0 := px0) (px1 := px1) (px2 := px2) (pk0 := pk0) o5 hf0 (by omega) (by omega) hc_px0 hc_px1 hc_px2) pd14 ?_
 intro vq6 h7 S8 q6 zh7
 obtain ⟨rfl, rfl, rfl⟩ := q6
 refine Ow.Go.nr (S' := []) (st' := [(.int 3), (.int 0)]) ?_
 refine Ow.icmpF (pc' := 19) B e0_16 (by decide) ?_
 refine Ow.aloadN (pc' := 20) B e0_19 ?_
 refine Ow.iloadN (pc' := 21) B e0_20 ?_
 refine Ow.Go.old (fun o9 => ?_)
 refine Ow.callVirtual (pc' := 24) (W := 0) (k' := 0) (n' := 0) (argsL := [(.int 0)]) (rest := []) (K := "java/lang/String") B e0_21 (w61 hw) (w62 hw) (w64 hw) (w64 hw) (w63 hw) (w8 hw) (w65 hw) (hf0).1 (con_charAt_99 hw G GS (pa0 := pa0) (pa1 := pa1) (px0 := px0) (px1 := px1) (px2 := px2) (pk0 := pk0) o9 hf0 (by omega) (by omega) (hk0) (hk1) hc_px0 hc_px1 hc_px2) pd19 ?_
 intro vq10 h11 S12 q10 zh11
 obtain ⟨rfl, rfl, rfl⟩ := q10
 refine Ow.Go.nr (S' := []) (st' := [(.int px0)]) ?_
 refine Ow.istoreN (pc' := 25) (Ls' := #[.val (.ref pa0), .val (.int 0), .val (.int px0), .unset]) B e0_24 ?_
 by_cases c13 : alP px0
 ·exact absurd (Or.inl c13) (hk2)
 ·refine blk_no_u hw B (pb := 0) ⟨hk0, hk1⟩ c13 (fun b14 => ?_)
  refine Ow.ldcText (pc' := 73) (k' := 2) (n' := 64) (nn := 60) (vs := [(.int 33), (.int 35), (.int 36), (.int 37), (.int 38), (.int 39), (.int 42), (.int 43), (.int 45), (.int 46), (.int 94), (.int 95), (.int 96), (.int 124), (.int 126)]) (z := 15) B e0_71 (w83 hw) (by decide) ⟨by decide, by decide⟩ (by decide) (by decide) ?_
  intro h16 a15 t17 kt17 Kh16 Ea15 Ca15 Va15 At17 Na15
  have zh16 := Kh16.1
  have la15 : (a15 : Nat) < h16.size := Ea15.lt
  have lt17 : (t17 : Nat) < h16.size := At17.lt
  refine Ow.iloadN (pc' := 74) B e0_73 ?_
  refine Ow.Go.old (fun o18 => ?_)
  refine Ow.callVirtual (pc' := 77) (W := 0) (k' := 2) (n' := 64) (argsL := [(.int px0)]) (rest := []) (K := "java/lang/String") B e0_74 (w84 hw) (w85 hw) (w87 hw) (w87 hw) (w86 hw) (w8 hw) (w88 hw) Ea15 (con_indexOf_43 hw G GS (pa0 := a15) (pa1 := t17) (px0 := px0) (pk0 := kt17) o18 Ea15 Ca15 Va15 At17 (hk0) hc_px0) pd6 ?_
  intro vq19 h20 S21 q19 zh20
  rcases q19 with q19 | q19
  ·obtain ⟨y22, rfl, rfl, c23, c24, rfl⟩ := q19
   refine Ow.Go.nr (S' := []) (st' := [(.int y22)]) ?_
   refine Ow.ifF (pc' := 80) B e0_77 (tlt (c24)).2.1 ?_
   refine Ow.iconst (pc' := 81) (x := 0) B e0_80 ?_
   exact Ow.retI (S' := []) (t := .boolean) B e0_81 (⟨rfl, ((Keep.refl _ []).trans Kh16 (fun _ q => nomatch q)), c23, rfl⟩)
  ·obtain ⟨y25, rfl, rfl, c26, c27, rfl⟩ := q19
   refine Ow.Go.nr (S' := []) (st' := [(.int y25)]) ?_
   refine Ow.ifT (pc' := 82) B e0_77 (flt (c27)).2.1 ?_
   exact absurd (Or.inr (c26)) (hk2)
set_option maxRecDepth 65536 in
set_option maxHeartbeats 40000000 in
theorem seg132_7 (hw : Hw a0 Z) (G : Ow.Glo Z cz sf) (GS : GlS Z) {pa0 : Nat} {pa1 : Nat} {px0 : Int32} {px1 : Int32} {px2 : Int32} {pk0 : ClassId} {dl0 : Int32} {dl1 : Int32} {dl2 : Int32} {dl3 : Int32} {dl4 : Int32} {dl5 : Int32} {dl6 : Int32} {dl7 : Int32} {dl8 : Int32} {dl9 : Int32} {p : Program} {e : Env} {s : State} {m : MethodId} {args : Array Value} {below : List Frame} {meth : Method} {c : ClassFile.Code} (B : Ow.Bdy p meth c Z EL1 a0 code maxLocals ret x.name) {h0 : Heap} (O0 : Old Z n0 h0) (hf0 : Ow.Chs Z h0 pa0 pa1 pk0 [px0, px1, px2]) (hn0 : n0 ≤ pa0) (hn1 : n0 ≤ pa1) (hk0 : ¬ (px0 < (0 : Int32))) (hk1 : ¬ ((65535 : Int32) < px0)) (hk2 : ¬ (tokP px0)) (hc_px0 : nar .char px0 = px0) (hc_px1 : nar .char px1 = px1) (hc_px2 : nar .char px2 = px2) :
  Ow.Go p l e room_1 s m args below meth c Z EL1 n0 x.cls (fun v _ _ => v = some (.int 1)) [] h0 22 2112 132 #[.val (.int dl0), .val (.int dl1), .val (.int dl2), .val (.int dl3), .val (.int dl4), .val (.int dl5), .val (.int dl6), .val (.int dl7), .val (.int dl8), .val (.int dl9), .val (.ref pa0), .val (.int 0)] [] := by
 have z0 := Ow.old_le O0
 have lpa0 : (pa0 : Nat) < h0.size := hf0.lt
 have lpa1 : (pa1 : Nat) < h0.size := hf0.ltt
 refine Ow.aload (pc' := 134) B at_132 ?_
 refine Ow.Go.old (fun o1 => ?_)
 refine Ow.callStatic (pc' := 137) (W := 0) (k' := 24) (n' := 2176) (argsL := [(.ref pa0)]) (rest := []) B at_134 (w28 hw) (w29 hw) (w30 hw) (w31 hw) (con_isToken_100 hw G GS (pa0 := pa0) (pa1 := pa1) (px0 := px0) (px1 := px1) (px2 := px2) (pk0 := pk0) o1 hf0 (by omega) (by omega) (hk0) (hk1) (hk2) hc_px0 hc_px1 hc_px2) pd4 ?_
 intro vq2 h3 S4 q2 zh3
 obtain ⟨rfl, Kh3, c5, rfl⟩ := q2
 refine Ow.Go.nr (S' := []) (st' := [(.int 0)]) ?_
 refine Ow.iload (pc' := 139) B at_137 ?_
 refine Ow.icmpF (pc' := 142) B at_139 (by decide) ?_
 refine Ow.iconst (pc' := 143) (x := 1) B at_142 ?_
 refine Ow.goto (pc' := 147) B at_143 ?_
 exact Ow.retI (S' := []) (t := .boolean) B at_147 (rfl)
set_option maxRecDepth 65536 in
set_option maxHeartbeats 40000000 in
theorem con_charAt_101 (hw : Hw a0 Z) (G : Ow.Glo Z cz sf) (GS : GlS Z) {pa0 : Nat} {px0 : Int32} {px1 : Int32} {px2 : Int32} {pk0 : ClassId} {h0 : Heap} (O0 : Old Z n0 h0) (hf0 : Arv Z h0 pa0 pk0 .byte (3 : Int32) [(.int px0.toInt8.toInt32), (.int px1.toInt8.toInt32), (.int px2.toInt8.toInt32)] (.int 0)) (hn0 : n0 ≤ pa0) (hk0 : ¬ (px1 < (0 : Int32))) (hk1 : ¬ ((255 : Int32) < px1)) (hc_px0 : nar .char px0 = px0) (hc_px1 : nar .char px1 = px1) (hc_px2 : nar .char px2 = px2) :
    Ow.Con l Z EL1 n0 my20 jdk_43_method_2_code 2 (Option.some Jvm.ClassFile.FieldType.char) [] ({ frames := 2, cells := 0, slots := 0, locals := 27 } : Room) #[(.ref pa0), (.int 1)] [] h0 (fun v h S' => (v = some (.int px1) ∧ h = h0 ∧ S' = [])) := by
 refine Ow.Con.enter (Ls := #[.val (.ref pa0), .val (.int 1)]) (plainFor_of_name pn4) O0 (hEW hw) (hSA hw) ?_
 intro p e s m below meth c B
 have z0 := Ow.old_le O0
 have lpa0 : (pa0 : Nat) < h0.size := hf0.lt
 refine Ow.iloadN (pc' := 1) B e19_0 ?_
 refine Ow.aloadN (pc' := 2) B e19_1 ?_
 refine Ow.arrlen (pc' := 3) B e19_2 hf0 ?_
 refine Ow.Go.old (fun o1 => ?_)
 refine Ow.callStatic (pc' := 6) (W := 0) (k' := 0) (n' := 0) (argsL := [(.int 1), (.int 3)]) (rest := []) B e19_3 (w75 hw) (w76 hw) (w8 hw) (w77 hw) (con_checkIndex_26 hw G GS (px0 := (1 : Int32)) (px1 := (3 : Int32)) o1 (by decide) (by decide)) pd16 ?_
 intro vq2 h3 S4 q2 zh3
 obtain ⟨rfl, rfl, rfl⟩ := q2
 refine Ow.Go.nr (S' := []) (st' := []) ?_
 refine Ow.aloadN (pc' := 7) B e19_6 ?_
 refine Ow.iloadN (pc' := 8) B e19_7 ?_
 refine Ow.baload (pc' := 9) B e19_8 hf0 ⟨by decide, by decide⟩ rfl ?_
 refine Ow.sipush (pc' := 12) (x := 255) B e19_9 ?_
 refine Ow.iand (pc' := 13) (z := px1) (hz := (Ow.b255 (hk0) (hk1))) B e19_12 ?_
 refine Ow.i2c (pc' := 14) (z := px1) (hz := (Ow.c_id (hk0) (hk1))) B e19_13 ?_
 exact Ow.retI (S' := []) (t := .char) (hnn := (Ow.cnarrow (Ow.nar_id (hk0) (hk1)))) B e19_14 (⟨rfl, rfl, rfl⟩)
set_option maxRecDepth 65536 in
set_option maxHeartbeats 40000000 in
theorem con_checkIndex_102 (hw : Hw a0 Z) (G : Ow.Glo Z cz sf) (GS : GlS Z) {pa0 : Nat} {px0 : Int32} {px1 : Int32} {px2 : Int32} {pk0 : ClassId} {h0 : Heap} (O0 : Old Z n0 h0) (hf0 : Arv Z h0 pa0 pk0 .byte (6 : Int32) [(.int px0.toInt8.toInt32), (.int (px0 >>> ((8 : Int32) &&& 31)).toInt8.toInt32), (.int px1.toInt8.toInt32), (.int (px1 >>> ((8 : Int32) &&& 31)).toInt8.toInt32), (.int px2.toInt8.toInt32), (.int (px2 >>> ((8 : Int32) &&& 31)).toInt8.toInt32)] (.int 0)) (hn0 : n0 ≤ pa0) (hc_px0 : nar .char px0 = px0) (hc_px1 : nar .char px1 = px1) (hc_px2 : nar .char px2 = px2) :
    Ow.Con l Z EL1 n0 my22 jdk_52_method_91_code 2 (Option.none : Option Jvm.ClassFile.FieldType) [] ({ frames := 2, cells := 0, slots := 0, locals := 27 } : Room) #[(.int 1), (.ref pa0)] [] h0 (fun v h S' => (v = none ∧ h = h0 ∧ S' = [])) := by
 refine Ow.Con.enter (Ls := #[.val (.int 1), .val (.ref pa0)]) (plainFor_of_name pn3) O0 (hEW hw) (hSA hw) ?_
 intro p e s m below meth c B
 have z0 := Ow.old_le O0
 have lpa0 : (pa0 : Nat) < h0.size := hf0.lt
 refine Ow.iloadN (pc' := 1) B e23_0 ?_
 refine Ow.aloadN (pc' := 2) B e23_1 ?_
 refine Ow.Go.old (fun o1 => ?_)
 refine Ow.callStatic (pc' := 5) (W := 1) (k' := 0) (n' := 0) (argsL := [(.ref pa0)]) (rest := [(.int 1)]) B e23_2 (w139 hw) (w140 hw) (w40 hw) (w141 hw) (con_length_95 hw G GS (pa0 := pa0) (px0 := px0) (px1 := px1) (px2 := px2) (pk0 := pk0) o1 hf0 (by omega) hc_px0 hc_px1 hc_px2) pd17 ?_
 intro vq2 h3 S4 q2 zh3
 obtain ⟨rfl, rfl, rfl⟩ := q2
 refine Ow.Go.nr (S' := []) (st' := [(.int 3), (.int 1)]) ?_
 refine Ow.Go.old (fun o5 => ?_)
 refine Ow.callStatic (pc' := 8) (W := 0) (k' := 0) (n' := 0) (argsL := [(.int 1), (.int 3)]) (rest := []) B e23_5 (w142 hw) (w76 hw) (w8 hw) (w77 hw) (con_checkIndex_26 hw G GS (px0 := (1 : Int32)) (px1 := (3 : Int32)) o5 (by decide) (by decide)) pd16 ?_
 intro vq6 h7 S8 q6 zh7
 obtain ⟨rfl, rfl, rfl⟩ := q6
 refine Ow.Go.nr (S' := []) (st' := []) ?_
 exact Ow.retV (S' := []) B e23_8 (⟨rfl, rfl, rfl⟩)
set_option maxRecDepth 65536 in
set_option maxHeartbeats 40000000 in
theorem con_getChar_103 (hw : Hw a0 Z) (G : Ow.Glo Z cz sf) (GS : GlS Z) {pa0 : Nat} {px0 : Int32} {px1 : Int32} {px2 : Int32} {pk0 : ClassId} {h0 : Heap} (O0 : Old Z n0 h0) (hf0 : Arv Z h0 pa0 pk0 .byte (6 : Int32) [(.int px0.toInt8.toInt32), (.int (px0 >>> ((8 : Int32) &&& 31)).toInt8.toInt32), (.int px1.toInt8.toInt32), (.int (px1 >>> ((8 : Int32) &&& 31)).toInt8.toInt32), (.int px2.toInt8.toInt32), (.int (px2 >>> ((8 : Int32) &&& 31)).toInt8.toInt32)] (.int 0)) (hn0 : n0 ≤ pa0) (hk0 : ¬ (px1 < (0 : Int32))) (hk1 : ¬ ((65535 : Int32) < px1)) (hc_px0 : nar .char px0 = px0) (hc_px1 : nar .char px1 = px1) (hc_px2 : nar .char px2 = px2) :
    Ow.Con l Z EL1 n0 my10 jdk_52_method_5_code 2 (Option.some Jvm.ClassFile.FieldType.char) [] ({ frames := 0, cells := 0, slots := 0, locals := 0 } : Room) #[(.ref pa0), (.int 1)] [] h0 (fun v h S' => (v = some (.int px1) ∧ h = h0 ∧ S' = [])) := by
 refine Ow.Con.enter (Ls := #[.val (.ref pa0), .val (.int 1)]) (plainFor_of_name pn3) O0 (hEW hw) (hSA hw) ?_
 intro p e s m below meth c B
 have z0 := Ow.old_le O0
 have lpa0 : (pa0 : Nat) < h0.size := hf0.lt
 refine Ow.getstatic (pc' := 3) B e11_0 (w127 hw) Via.refl GS.1 ?_
 refine Ow.ifT (pc' := 28) B e11_3 (by decide) ?_
 refine Ow.iloadN (pc' := 29) B e11_28 ?_
 refine Ow.iconst (pc' := 30) (x := 1) B e11_29 ?_
 refine Ow.ishl (pc' := 31) (z := 2) B e11_30 ?_
 refine Ow.istoreN (pc' := 32) (Ls' := #[.val (.ref pa0), .val (.int 2)]) B e11_31 ?_
 refine Ow.aloadN (pc' := 33) B e11_32 ?_
 refine Ow.iloadN (pc' := 34) B e11_33 ?_
 refine Ow.iinc (pc' := 37) (y := 3) (Ls' := #[.val (.ref pa0), .val (.int 3)]) B e11_34 ?_
 refine Ow.baload (pc' := 38) B e11_37 hf0 ⟨by decide, by decide⟩ rfl ?_
 refine Ow.sipush (pc' := 41) (x := 255) B e11_38 ?_
 refine Ow.iand (pc' := 42) (z := (px1.toInt8.toInt32 &&& (255 : Int32))) B e11_41 ?_
 refine Ow.getstatic (pc' := 45) B e11_42 (w128 hw) Via.refl GS.2.1 ?_
 refine Ow.ishl (pc' := 46) (z := ((px1.toInt8.toInt32 &&& (255 : Int32)) <<< ((0 : Int32) &&& 31))) B e11_45 ?_
 refine Ow.aloadN (pc' := 47) B e11_46 ?_
 refine Ow.iloadN (pc' := 48) B e11_47 ?_
 refine Ow.baload (pc' := 49) B e11_48 hf0 ⟨by decide, by decide⟩ rfl ?_
 refine Ow.sipush (pc' := 52) (x := 255) B e11_49 ?_
 refine Ow.iand (pc' := 53) (z := ((px1 >>> ((8 : Int32) &&& 31)).toInt8.toInt32 &&& (255 : Int32))) B e11_52 ?_
 refine Ow.getstatic (pc' := 56) B e11_53 (w129 hw) Via.refl GS.2.2 ?_
 refine Ow.ishl (pc' := 57) (z := (((px1 >>> ((8 : Int32) &&& 31)).toInt8.toInt32 &&& (255 : Int32)) <<< ((8 : Int32) &&& 31))) B e11_56 ?_
 refine Ow.ior (pc' := 58) (z := px1) (hz := (Ow.u16 (hk0) (hk1))) B e11_57 ?_
 refine Ow.i2c (pc' := 59) (z := px1) (hz := hc_px1) B e11_58 ?_
 exact Ow.retI (S' := []) (t := .char) (hnn := (Ow.cnarrow hc_px1)) B e11_59 (⟨rfl, rfl, rfl⟩)
set_option maxRecDepth 65536 in
set_option maxHeartbeats 40000000 in
theorem con_charAt_104 (hw : Hw a0 Z) (G : Ow.Glo Z cz sf) (GS : GlS Z) {pa0 : Nat} {px0 : Int32} {px1 : Int32} {px2 : Int32} {pk0 : ClassId} {h0 : Heap} (O0 : Old Z n0 h0) (hf0 : Arv Z h0 pa0 pk0 .byte (6 : Int32) [(.int px0.toInt8.toInt32), (.int (px0 >>> ((8 : Int32) &&& 31)).toInt8.toInt32), (.int px1.toInt8.toInt32), (.int (px1 >>> ((8 : Int32) &&& 31)).toInt8.toInt32), (.int px2.toInt8.toInt32), (.int (px2 >>> ((8 : Int32) &&& 31)).toInt8.toInt32)] (.int 0)) (hn0 : n0 ≤ pa0) (hk0 : ¬ (px1 < (0 : Int32))) (hk1 : ¬ ((65535 : Int32) < px1)) (hc_px0 : nar .char px0 = px0) (hc_px1 : nar .char px1 = px1) (hc_px2 : nar .char px2 = px2) :
    Ow.Con l Z EL1 n0 my23 jdk_52_method_83_code 2 (Option.some Jvm.ClassFile.FieldType.char) [] ({ frames := 3, cells := 0, slots := 0, locals := 40 } : Room) #[(.ref pa0), (.int 1)] [] h0 (fun v h S' => (v = some (.int px1) ∧ h = h0 ∧ S' = [])) := by
 refine Ow.Con.enter (Ls := #[.val (.ref pa0), .val (.int 1)]) (plainFor_of_name pn3) O0 (hEW hw) (hSA hw) ?_
 intro p e s m below meth c B
 have z0 := Ow.old_le O0
 have lpa0 : (pa0 : Nat) < h0.size := hf0.lt
 refine Ow.iloadN (pc' := 1) B e22_0 ?_
 refine Ow.aloadN (pc' := 2) B e22_1 ?_
 refine Ow.Go.old (fun o1 => ?_)
 refine Ow.callStatic (pc' := 5) (W := 0) (k' := 0) (n' := 0) (argsL := [(.int 1), (.ref pa0)]) (rest := []) B e22_2 (w136 hw) (w137 hw) (w40 hw) (w138 hw) (con_checkIndex_102 hw G GS (pa0 := pa0) (px0 := px0) (px1 := px1) (px2 := px2) (pk0 := pk0) o1 hf0 (by omega) hc_px0 hc_px1 hc_px2) pd18 ?_
 intro vq2 h3 S4 q2 zh3
 obtain ⟨rfl, rfl, rfl⟩ := q2
 refine Ow.Go.nr (S' := []) (st' := []) ?_
 refine Ow.aloadN (pc' := 6) B e22_5 ?_
 refine Ow.iloadN (pc' := 7) B e22_6 ?_
 refine Ow.Go.old (fun o5 => ?_)
 refine Ow.callStatic (pc' := 10) (W := 0) (k' := 0) (n' := 0) (argsL := [(.ref pa0), (.int 1)]) (rest := []) B e22_7 (w130 hw) (w131 hw) (w40 hw) (w132 hw) (con_getChar_103 hw G GS (pa0 := pa0) (px0 := px0) (px1 := px1) (px2 := px2) (pk0 := pk0) o5 hf0 (by omega) (hk0) (hk1) hc_px0 hc_px1 hc_px2) pd10 ?_
 intro vq6 h7 S8 q6 zh7
 obtain ⟨rfl, rfl, rfl⟩ := q6
 refine Ow.Go.nr (S' := []) (st' := [(.int px1)]) ?_
 exact Ow.retI (S' := []) (t := .char) (hnn := (Ow.cnarrow hc_px1)) B e22_10 (⟨rfl, rfl, rfl⟩)
set_option maxRecDepth 65536 in
set_option maxHeartbeats 40000000 in
theorem con_charAt_105 (hw : Hw a0 Z) (G : Ow.Glo Z cz sf) (GS : GlS Z) {pa0 : Nat} {pa1 : Nat} {px0 : Int32} {px1 : Int32} {px2 : Int32} {pk0 : ClassId} {h0 : Heap} (O0 : Old Z n0 h0) (hf0 : Ow.Chs Z h0 pa0 pa1 pk0 [px0, px1, px2]) (hn0 : n0 ≤ pa0) (hn1 : n0 ≤ pa1) (hk0 : ¬ (px1 < (0 : Int32))) (hk1 : ¬ ((65535 : Int32) < px1)) (hc_px0 : nar .char px0 = px0) (hc_px1 : nar .char px1 = px1) (hc_px2 : nar .char px2 = px2) :
    Ow.Con l Z EL1 n0 my24 jdk_42_method_56_code 2 (Option.some Jvm.ClassFile.FieldType.char) [] ({ frames := 4, cells := 0, slots := 0, locals := 53 } : Room) #[(.ref pa0), (.int 1)] [] h0 (fun v h S' => (v = some (.int px1) ∧ h = h0 ∧ S' = [])) := by
 rcases hf0.2.2.2 with ⟨oc_hf0, oa_hf0, ol_hf0⟩ | ⟨oc_hf0, oa_hf0, ou_hf0⟩
 ·refine Ow.Con.enter (Ls := #[.val (.ref pa0), .val (.int 1)]) (plainFor_of_name pn1) O0 (hEW hw) (hSA hw) ?_
  intro p e s m below meth c B
  have z0 := Ow.old_le O0
  have oE_hf0 := hf0.1
  have oV_hf0 := hf0.2.1
  have oR_hf0 := hf0.2.2.1
  have oA_hf0 : Arv Z h0 pa1 pk0 .byte (3 : Int32) [(.int px0.toInt8.toInt32), (.int px1.toInt8.toInt32), (.int px2.toInt8.toInt32)] (.int 0) := oa_hf0
  have lpa0 : (pa0 : Nat) < h0.size := hf0.lt
  have lpa1 : (pa1 : Nat) < h0.size := oA_hf0.lt
  have lpa1 : (pa1 : Nat) < h0.size := hf0.ltt
  refine Ow.aloadN (pc' := 1) B e17_0 ?_
  refine Ow.Go.old (fun o1 => ?_)
  refine Ow.callVirtual (pc' := 4) (W := 0) (k' := 0) (n' := 0) (argsL := []) (rest := []) (K := "java/lang/String") B e17_1 (w66 hw) (w67 hw) (w69 hw) (w69 hw) (w68 hw) (w8 hw) (w70 hw) oE_hf0 (con_isLatin1_24 hw G GS (pa0 := pa0) o1 oc_hf0 (by omega)) pd3 ?_
  intro vq2 h3 S4 q2 zh3
  obtain ⟨rfl, rfl, rfl⟩ := q2
  refine Ow.Go.nr (S' := []) (st' := [(.int 1)]) ?_
  refine Ow.ifF (pc' := 7) B e17_4 (by decide) ?_
  refine Ow.aloadN (pc' := 8) B e17_7 ?_
  refine Ow.getfield (pc' := 11) B e17_8 (w26 hw) Via.refl oV_hf0 ?_
  refine Ow.iloadN (pc' := 12) B e17_11 ?_
  refine Ow.Go.old (fun o5 => ?_)
  refine Ow.callStatic (pc' := 15) (W := 0) (k' := 0) (n' := 0) (argsL := [(.ref pa1), (.int 1)]) (rest := []) B e17_12 (w71 hw) (w72 hw) (w73 hw) (w74 hw) (con_charAt_101 hw G GS (pa0 := pa1) (px0 := px0) (px1 := px1) (px2 := px2) (pk0 := pk0) o5 oA_hf0 (by omega) (hk0) (ol_hf0 px1 (by simp)) hc_px0 hc_px1 hc_px2) pd10 ?_
  intro vq6 h7 S8 q6 zh7
  obtain ⟨rfl, rfl, rfl⟩ := q6
  refine Ow.Go.nr (S' := []) (st' := [(.int px1)]) ?_
  exact Ow.retI (S' := []) (t := .char) (hnn := (Ow.cnarrow hc_px1)) B e17_15 (⟨rfl, rfl, rfl⟩)
 ·refine Ow.Con.enter (Ls := #[.val (.ref pa0), .val (.int 1)]) (plainFor_of_name pn1) O0 (hEW hw) (hSA hw) ?_
  intro p e s m below meth c B
  have z0 := Ow.old_le O0
  have oE_hf0 := hf0.1
  have oV_hf0 := hf0.2.1
  have oR_hf0 := hf0.2.2.1
  have oA_hf0 : Arv Z h0 pa1 pk0 .byte (6 : Int32) [(.int px0.toInt8.toInt32), (.int (px0 >>> ((8 : Int32) &&& 31)).toInt8.toInt32), (.int px1.toInt8.toInt32), (.int (px1 >>> ((8 : Int32) &&& 31)).toInt8.toInt32), (.int px2.toInt8.toInt32), (.int (px2 >>> ((8 : Int32) &&& 31)).toInt8.toInt32)] (.int 0) := oa_hf0
  have lpa0 : (pa0 : Nat) < h0.size := hf0.lt
  have lpa1 : (pa1 : Nat) < h0.size := oA_hf0.lt
  have lpa1 : (pa1 : Nat) < h0.size := hf0.ltt
  refine Ow.aloadN (pc' := 1) B e17_0 ?_
  refine Ow.Go.old (fun o1 => ?_)
  refine Ow.callVirtual (pc' := 4) (W := 0) (k' := 0) (n' := 0) (argsL := []) (rest := []) (K := "java/lang/String") B e17_1 (w66 hw) (w67 hw) (w69 hw) (w69 hw) (w68 hw) (w8 hw) (w70 hw) oE_hf0 (con_isLatin1_28 hw G GS (pa0 := pa0) o1 oc_hf0 (by omega)) pd3 ?_
  intro vq2 h3 S4 q2 zh3
  obtain ⟨rfl, rfl, rfl⟩ := q2
  refine Ow.Go.nr (S' := []) (st' := [(.int 0)]) ?_
  refine Ow.ifT (pc' := 16) B e17_4 (by decide) ?_
  refine Ow.aloadN (pc' := 17) B e17_16 ?_
  refine Ow.getfield (pc' := 20) B e17_17 (w26 hw) Via.refl oV_hf0 ?_
  refine Ow.iloadN (pc' := 21) B e17_20 ?_
  refine Ow.Go.old (fun o5 => ?_)
  refine Ow.callStatic (pc' := 24) (W := 0) (k' := 0) (n' := 0) (argsL := [(.ref pa1), (.int 1)]) (rest := []) B e17_21 (w133 hw) (w134 hw) (w40 hw) (w135 hw) (con_charAt_104 hw G GS (pa0 := pa1) (px0 := px0) (px1 := px1) (px2 := px2) (pk0 := pk0) o5 oA_hf0 (by omega) (hk0) (hk1) hc_px0 hc_px1 hc_px2) pd10 ?_
  intro vq6 h7 S8 q6 zh7
  obtain ⟨rfl, rfl, rfl⟩ := q6
  refine Ow.Go.nr (S' := []) (st' := [(.int px1)]) ?_
  exact Ow.retI (S' := []) (t := .char) (hnn := (Ow.cnarrow hc_px1)) B e17_24 (⟨rfl, rfl, rfl⟩)
set_option maxRecDepth 65536 in
set_option maxHeartbeats 40000000 in
theorem con_isToken_106 (hw : Hw a0 Z) (G : Ow.Glo Z cz sf) (GS : GlS Z) {pa0 : Nat} {pa1 : Nat} {px0 : Int32} {px1 : Int32} {px2 : Int32} {pk0 : ClassId} {h0 : Heap} (O0 : Old Z n0 h0) (hf0 : Ow.Chs Z h0 pa0 pa1 pk0 [px0, px1, px2]) (hn0 : n0 ≤ pa0) (hn1 : n0 ≤ pa1) (hk0 : ¬ (px0 < (0 : Int32))) (hk1 : ¬ ((65535 : Int32) < px0)) (hk2 : ¬ (px1 < (0 : Int32))) (hk3 : ¬ ((65535 : Int32) < px1)) (hk4 : tokP px0) (hk5 : ¬ (tokP px1)) (hc_px0 : nar .char px0 = px0) (hc_px1 : nar .char px1 = px1) (hc_px2 : nar .char px2 = px2) :
    Ow.Con l Z EL1 n0 my4 prog_28_method_5_code 4 (Option.some Jvm.ClassFile.FieldType.boolean) [] ({ frames := 5, cells := 4, slots := 128, locals := 66 } : Room) #[(.ref pa0)] [] h0 (fun v h S' => (v = some (.int 0) ∧ Keep h0 h [] ∧ ¬ (symP px1) ∧ S' = [])) := by
 refine Ow.Con.enter (Ls := #[.val (.ref pa0), .unset, .unset, .unset]) (plainFor_of_name pn2) O0 (hEW hw) (hSA hw) ?_
 intro p e s m below meth c B
 have z0 := Ow.old_le O0
 have lpa0 : (pa0 : Nat) < h0.size := hf0.lt
 have lpa1 : (pa1 : Nat) < h0.size := hf0.ltt
 refine Ow.aloadN (pc' := 1) B e0_0 ?_
 refine Ow.Go.old (fun o1 => ?_)
 refine Ow.callVirtual (pc' := 4) (W := 0) (k' := 0) (n' := 0) (argsL := []) (rest := []) (K := "java/lang/String") B e0_1 (w32 hw) (w33 hw) (w35 hw) (w35 hw) (w34 hw) (w8 hw) (w36 hw) (hf0).1 (con_isEmpty_92 hw G GS (pa0 := pa0) (pa1 := pa1) (px0 := px0) (px1 := px1) (px2 := px2) (pk0 := pk0) o1 hf0 (by omega) (by omega) hc_px0 hc_px1 hc_px2) pd3 ?_
 intro vq2 h3 S4 q2 zh3
 obtain ⟨rfl, rfl, rfl⟩ := q2
 refine Ow.Go.nr (S' := []) (st' := [(.int 0)]) ?_
 refine Ow.ifT (pc' := 9) B e0_4 (by decide) ?_
 refine Ow.iconst (pc' := 10) (x := 0) B e0_9 ?_
 refine Ow.istoreN (pc' := 11) (Ls' := #[.val (.ref pa0), .val (.int 0), .unset, .unset]) B e0_10 ?_
 refine Ow.iloadN (pc' := 12) B e0_11 ?_
 refine Ow.aloadN (pc' := 13) B e0_12 ?_
 refine Ow.Go.old (fun o5 => ?_)
 refine Ow.callVirtual (pc' := 16) (W := 1) (k' := 0) (n' := 0) (argsL := []) (rest := [(.int 0)]) (K := "java/lang/String") B e0_13 (w51 hw) (w52 hw) (w54 hw) (w54 hw) (w53 hw) (w8 hw) (w55 hw) (hf0).1 (con_length_93 hw G GS (pa0 := pa0) (pa1 := pa1) (px0 := px0) (px1 := px1) (px2 := px2) (pk0 := pk0) o5 hf0 (by omega) (by omega) hc_px0 hc_px1 hc_px2) pd14 ?_
 intro vq6 h7 S8 q6 zh7
 obtain ⟨rfl, rfl, rfl⟩ := q6
 refine Ow.Go.nr (S' := []) (st' := [(.int 3), (.int 0)]) ?_
 refine Ow.icmpF (pc' := 19) B e0_16 (by decide) ?_
 refine Ow.aloadN (pc' := 20) B e0_19 ?_
 refine Ow.iloadN (pc' := 21) B e0_20 ?_
 refine Ow.Go.old (fun o9 => ?_)
 refine Ow.callVirtual (pc' := 24) (W := 0) (k' := 0) (n' := 0) (argsL := [(.int 0)]) (rest := []) (K := "java/lang/String") B e0_21 (w61 hw) (w62 hw) (w64 hw) (w64 hw) (w63 hw) (w8 hw) (w65 hw) (hf0).1 (con_charAt_99 hw G GS (pa0 := pa0) (pa1 := pa1) (px0 := px0) (px1 := px1) (px2 := px2) (pk0 := pk0) o9 hf0 (by omega) (by omega) (hk0) (hk1) hc_px0 hc_px1 hc_px2) pd19 ?_
 intro vq10 h11 S12 q10 zh11
 obtain ⟨rfl, rfl, rfl⟩ := q10
 refine Ow.Go.nr (S' := []) (st' := [(.int px0)]) ?_
 refine Ow.istoreN (pc' := 25) (Ls' := #[.val (.ref pa0), .val (.int 0), .val (.int px0), .unset]) B e0_24 ?_
 refine Ow.Go.joinH (α := Int32) (pc1 := 82) (k1 := 2) (n1 := 64) (fun b => #[.val (.ref pa0), .val (.int 0), .val (.int px0), .val (.int b)]) (fun _ => []) ?_ ?_
 ·intro h14 Kh14 b13
  have zh14 := Kh14.1
  refine Ow.iinc (pc' := 85) (y := 1) (Ls' := #[.val (.ref pa0), .val (.int 1), .val (.int px0), .val (.int b13)]) B e0_82 ?_
  refine Ow.goto (pc' := 11) B e0_85 ?_
  refine Ow.iloadN (pc' := 12) B e0_11 ?_
  refine Ow.aloadN (pc' := 13) B e0_12 ?_
  refine Ow.Go.old (fun o15 => ?_)
  have f16 := hf0.keep Kh14 Ow.nin0 Ow.nin0
  refine Ow.callVirtual (pc' := 16) (W := 1) (k' := 2) (n' := 64) (argsL := []) (rest := [(.int 1)]) (K := "java/lang/String") B e0_13 (w51 hw) (w52 hw) (w54 hw) (w54 hw) (w53 hw) (w8 hw) (w55 hw) (f16).1 (con_length_93 hw G GS (pa0 := pa0) (pa1 := pa1) (px0 := px0) (px1 := px1) (px2 := px2) (pk0 := pk0) o15 f16 (by omega) (by omega) hc_px0 hc_px1 hc_px2) pd14 ?_
  intro vq17 h18 S19 q17 zh18
  obtain ⟨rfl, rfl, rfl⟩ := q17
  refine Ow.Go.nr (S' := []) (st' := [(.int 3), (.int 1)]) ?_
  refine Ow.icmpF (pc' := 19) B e0_16 (by decide) ?_
  refine Ow.aloadN (pc' := 20) B e0_19 ?_
  refine Ow.iloadN (pc' := 21) B e0_20 ?_
  refine Ow.Go.old (fun o20 => ?_)
  refine Ow.callVirtual (pc' := 24) (W := 0) (k' := 2) (n' := 64) (argsL := [(.int 1)]) (rest := []) (K := "java/lang/String") B e0_21 (w61 hw) (w62 hw) (w64 hw) (w64 hw) (w63 hw) (w8 hw) (w65 hw) (f16).1 (con_charAt_105 hw G GS (pa0 := pa0) (pa1 := pa1) (px0 := px0) (px1 := px1) (px2 := px2) (pk0 := pk0) o20 f16 (by omega) (by omega) (hk2) (hk3) hc_px0 hc_px1 hc_px2) pd19 ?_
  intro vq21 h22 S23 q21 zh22
  obtain ⟨rfl, rfl, rfl⟩ := q21
  refine Ow.Go.nr (S' := []) (st' := [(.int px1)]) ?_
  refine Ow.istoreN (pc' := 25) (Ls' := #[.val (.ref pa0), .val (.int 1), .val (.int px1), .val (.int b13)]) B e0_24 ?_
  by_cases c24 : alP px1
  ·exact absurd (Or.inl c24) (hk5)
  ·refine blk_no_b hw B (pb := b13) ⟨hk2, hk3⟩ c24 (fun b25 => ?_)
   refine Ow.ldcText (pc' := 73) (k' := 4) (n' := 128) (nn := 60) (vs := [(.int 33), (.int 35), (.int 36), (.int 37), (.int 38), (.int 39), (.int 42), (.int 43), (.int 45), (.int 46), (.int 94), (.int 95), (.int 96), (.int 124), (.int 126)]) (z := 15) B e0_71 (w83 hw) (by decide) ⟨by decide, by decide⟩ (by decide) (by decide) ?_
   intro h27 a26 t28 kt28 Kh27 Ea26 Ca26 Va26 At28 Na26
   have zh27 := Kh27.1
   have la26 : (a26 : Nat) < h27.size := Ea26.lt
   have lt28 : (t28 : Nat) < h27.size := At28.lt
   refine Ow.iloadN (pc' := 74) B e0_73 ?_
   refine Ow.Go.old (fun o29 => ?_)
   refine Ow.callVirtual (pc' := 77) (W := 0) (k' := 4) (n' := 128) (argsL := [(.int px1)]) (rest := []) (K := "java/lang/String") B e0_74 (w84 hw) (w85 hw) (w87 hw) (w87 hw) (w86 hw) (w8 hw) (w88 hw) Ea26 (con_indexOf_43 hw G GS (pa0 := a26) (pa1 := t28) (px0 := px1) (pk0 := kt28) o29 Ea26 Ca26 Va26 At28 (hk2) hc_px1) pd6 ?_
   intro vq30 h31 S32 q30 zh31
   rcases q30 with q30 | q30
   ·obtain ⟨y33, rfl, rfl, c34, c35, rfl⟩ := q30
    refine Ow.Go.nr (S' := []) (st' := [(.int y33)]) ?_
    refine Ow.ifF (pc' := 80) B e0_77 (tlt (c35)).2.1 ?_
    refine Ow.iconst (pc' := 81) (x := 0) B e0_80 ?_
    exact Ow.retI (S' := []) (t := .boolean) B e0_81 (⟨rfl, (((Keep.refl _ []).trans Kh14 (fun _ q => nomatch q)).trans Kh27 (fun _ q => nomatch q)), c34, rfl⟩)
   ·obtain ⟨y36, rfl, rfl, c37, c38, rfl⟩ := q30
    refine Ow.Go.nr (S' := []) (st' := [(.int y36)]) ?_
    refine Ow.ifT (pc' := 82) B e0_77 (flt (c38)).2.1 ?_
    exact absurd (Or.inr (c37)) (hk5)
 ·intro J39
  by_cases c40 : alP px0
  ·refine blk_al_u hw B (pb := 0) ⟨hk0, hk1⟩ c40 (fun b41 => ?_)
   exact Ow.Go.mono (k' := 2) (n' := 64) (by decide) (by decide) (by simp) (J39 _ (Keep.refl _ []) _)
  ·refine blk_no_u hw B (pb := 0) ⟨hk0, hk1⟩ c40 (fun b42 => ?_)
   refine Ow.ldcText (pc' := 73) (k' := 2) (n' := 64) (nn := 60) (vs := [(.int 33), (.int 35), (.int 36), (.int 37), (.int 38), (.int 39), (.int 42), (.int 43), (.int 45), (.int 46), (.int 94), (.int 95), (.int 96), (.int 124), (.int 126)]) (z := 15) B e0_71 (w83 hw) (by decide) ⟨by decide, by decide⟩ (by decide) (by decide) ?_
   intro h44 a43 t45 kt45 Kh44 Ea43 Ca43 Va43 At45 Na43
   have zh44 := Kh44.1
   have la43 : (a43 : Nat) < h44.size := Ea43.lt
   have lt45 : (t45 : Nat) < h44.size := At45.lt
   refine Ow.iloadN (pc' := 74) B e0_73 ?_
   refine Ow.Go.old (fun o46 => ?_)
   refine Ow.callVirtual (pc' := 77) (W := 0) (k' := 2) (n' := 64) (argsL := [(.int px0)]) (rest := []) (K := "java/lang/String") B e0_74 (w84 hw) (w85 hw) (w87 hw) (w87 hw) (w86 hw) (w8 hw) (w88 hw) Ea43 (con_indexOf_43 hw G GS (pa0 := a43) (pa1 := t45) (px0 := px0) (pk0 := kt45) o46 Ea43 Ca43 Va43 At45 (hk0) hc_px0) pd6 ?_
   intro vq47 h48 S49 q47 zh48
   rcases q47 with q47 | q47
   ·obtain ⟨y50, rfl, rfl, c51, c52, rfl⟩ := q47
    refine Ow.Go.nr (S' := []) (st' := [(.int y50)]) ?_
    refine Ow.ifF (pc' := 80) B e0_77 (tlt (c52)).2.1 ?_
    exact absurd (hk4) (fun q => q.elim (fun q => c40 q) (c51))
   ·obtain ⟨y53, rfl, rfl, c54, c55, rfl⟩ := q47
    refine Ow.Go.nr (S' := []) (st' := [(.int y53)]) ?_
    refine Ow.ifT (pc' := 82) B e0_77 (flt (c55)).2.1 ?_
    exact Ow.Go.mono (k' := 2) (n' := 64) (by decide) (by decide) (by simp) (J39 _ ((Keep.refl _ []).trans Kh44 (fun _ q => nomatch q)) _)
set_option maxRecDepth 65536 in
set_option maxHeartbeats 40000000 in
theorem seg132_8 (hw : Hw a0 Z) (G : Ow.Glo Z cz sf) (GS : GlS Z) {pa0 : Nat} {pa1 : Nat} {px0 : Int32} {px1 : Int32} {px2 : Int32} {pk0 : ClassId} {dl0 : Int32} {dl1 : Int32} {dl2 : Int32} {dl3 : Int32} {dl4 : Int32} {dl5 : Int32} {dl6 : Int32} {dl7 : Int32} {dl8 : Int32} {dl9 : Int32} {p : Program} {e : Env} {s : State} {m : MethodId} {args : Array Value} {below : List Frame} {meth : Method} {c : ClassFile.Code} (B : Ow.Bdy p meth c Z EL1 a0 code maxLocals ret x.name) {h0 : Heap} (O0 : Old Z n0 h0) (hf0 : Ow.Chs Z h0 pa0 pa1 pk0 [px0, px1, px2]) (hn0 : n0 ≤ pa0) (hn1 : n0 ≤ pa1) (hk0 : ¬ (px0 < (0 : Int32))) (hk1 : ¬ ((65535 : Int32) < px0)) (hk2 : ¬ (px1 < (0 : Int32))) (hk3 : ¬ ((65535 : Int32) < px1)) (hk4 : tokP px0) (hk5 : ¬ (tokP px1)) (hc_px0 : nar .char px0 = px0) (hc_px1 : nar .char px1 = px1) (hc_px2 : nar .char px2 = px2) :
  Ow.Go p l e room_1 s m args below meth c Z EL1 n0 x.cls (fun v _ _ => v = some (.int 1)) [] h0 20 2048 132 #[.val (.int dl0), .val (.int dl1), .val (.int dl2), .val (.int dl3), .val (.int dl4), .val (.int dl5), .val (.int dl6), .val (.int dl7), .val (.int dl8), .val (.int dl9), .val (.ref pa0), .val (.int 0)] [] := by
 have z0 := Ow.old_le O0
 have lpa0 : (pa0 : Nat) < h0.size := hf0.lt
 have lpa1 : (pa1 : Nat) < h0.size := hf0.ltt
 refine Ow.aload (pc' := 134) B at_132 ?_
 refine Ow.Go.old (fun o1 => ?_)
 refine Ow.callStatic (pc' := 137) (W := 0) (k' := 24) (n' := 2176) (argsL := [(.ref pa0)]) (rest := []) B at_134 (w28 hw) (w29 hw) (w30 hw) (w31 hw) (con_isToken_106 hw G GS (pa0 := pa0) (pa1 := pa1) (px0 := px0) (px1 := px1) (px2 := px2) (pk0 := pk0) o1 hf0 (by omega) (by omega) (hk0) (hk1) (hk2) (hk3) (hk4) (hk5) hc_px0 hc_px1 hc_px2) pd4 ?_
 intro vq2 h3 S4 q2 zh3
 obtain ⟨rfl, Kh3, c5, rfl⟩ := q2
 refine Ow.Go.nr (S' := []) (st' := [(.int 0)]) ?_
 refine Ow.iload (pc' := 139) B at_137 ?_
 refine Ow.icmpF (pc' := 142) B at_139 (by decide) ?_
 refine Ow.iconst (pc' := 143) (x := 1) B at_142 ?_
 refine Ow.goto (pc' := 147) B at_143 ?_
 exact Ow.retI (S' := []) (t := .boolean) B at_147 (rfl)
set_option maxRecDepth 65536 in
set_option maxHeartbeats 40000000 in
theorem con_charAt_107 (hw : Hw a0 Z) (G : Ow.Glo Z cz sf) (GS : GlS Z) {pa0 : Nat} {px0 : Int32} {px1 : Int32} {px2 : Int32} {pk0 : ClassId} {h0 : Heap} (O0 : Old Z n0 h0) (hf0 : Arv Z h0 pa0 pk0 .byte (3 : Int32) [(.int px0.toInt8.toInt32), (.int px1.toInt8.toInt32), (.int px2.toInt8.toInt32)] (.int 0)) (hn0 : n0 ≤ pa0) (hk0 : ¬ (px2 < (0 : Int32))) (hk1 : ¬ ((255 : Int32) < px2)) (hc_px0 : nar .char px0 = px0) (hc_px1 : nar .char px1 = px1) (hc_px2 : nar .char px2 = px2) :
    Ow.Con l Z EL1 n0 my20 jdk_43_method_2_code 2 (Option.some Jvm.ClassFile.FieldType.char) [] ({ frames := 2, cells := 0, slots := 0, locals := 27 } : Room) #[(.ref pa0), (.int 2)] [] h0 (fun v h S' => (v = some (.int px2) ∧ h = h0 ∧ S' = [])) := by
 refine Ow.Con.enter (Ls := #[.val (.ref pa0), .val (.int 2)]) (plainFor_of_name pn4) O0 (hEW hw) (hSA hw) ?_
 intro p e s m below meth c B
 have z0 := Ow.old_le O0
 have lpa0 : (pa0 : Nat) < h0.size := hf0.lt
 refine Ow.iloadN (pc' := 1) B e19_0 ?_
 refine Ow.aloadN (pc' := 2) B e19_1 ?_
 refine Ow.arrlen (pc' := 3) B e19_2 hf0 ?_
 refine Ow.Go.old (fun o1 => ?_)
 refine Ow.callStatic (pc' := 6) (W := 0) (k' := 0) (n' := 0) (argsL := [(.int 2), (.int 3)]) (rest := []) B e19_3 (w75 hw) (w76 hw) (w8 hw) (w77 hw) (con_checkIndex_26 hw G GS (px0 := (2 : Int32)) (px1 := (3 : Int32)) o1 (by decide) (by decide)) pd16 ?_
 intro vq2 h3 S4 q2 zh3
 obtain ⟨rfl, rfl, rfl⟩ := q2
 refine Ow.Go.nr (S' := []) (st' := []) ?_
 refine Ow.aloadN (pc' := 7) B e19_6 ?_
 refine Ow.iloadN (pc' := 8) B e19_7 ?_
 refine Ow.baload (pc' := 9) B e19_8 hf0 ⟨by decide, by decide⟩ rfl ?_
 refine Ow.sipush (pc' := 12) (x := 255) B e19_9 ?_
 refine Ow.iand (pc' := 13) (z := px2) (hz := (Ow.b255 (hk0) (hk1))) B e19_12 ?_
 refine Ow.i2c (pc' := 14) (z := px2) (hz := (Ow.c_id (hk0) (hk1))) B e19_13 ?_
 exact Ow.retI (S' := []) (t := .char) (hnn := (Ow.cnarrow (Ow.nar_id (hk0) (hk1)))) B e19_14 (⟨rfl, rfl, rfl⟩)
set_option maxRecDepth 65536 in
set_option maxHeartbeats 40000000 in
theorem con_checkIndex_108 (hw : Hw a0 Z) (G : Ow.Glo Z cz sf) (GS : GlS Z) {pa0 : Nat} {px0 : Int32} {px1 : Int32} {px2 : Int32} {pk0 : ClassId} {h0 : Heap} (O0 : Old Z n0 h0) (hf0 : Arv Z h0 pa0 pk0 .byte (6 : Int32) [(.int px0.toInt8.toInt32), (.int (px0 >>> ((8 : Int32) &&& 31)).toInt8.toInt32), (.int px1.toInt8.toInt32), (.int (px1 >>> ((8 : Int32) &&& 31)).toInt8.toInt32), (.int px2.toInt8.toInt32), (.int (px2 >>> ((8 : Int32) &&& 31)).toInt8.toInt32)] (.int 0)) (hn0 : n0 ≤ pa0) (hc_px0 : nar .char px0 = px0) (hc_px1 : nar .char px1 = px1) (hc_px2 : nar .char px2 = px2) :
    Ow.Con l Z EL1 n0 my22 jdk_52_method_91_code 2 (Option.none : Option Jvm.ClassFile.FieldType) [] ({ frames := 2, cells := 0, slots := 0, locals := 27 } : Room) #[(.int 2), (.ref pa0)] [] h0 (fun v h S' => (v = none ∧ h = h0 ∧ S' = [])) := by
 refine Ow.Con.enter (Ls := #[.val (.int 2), .val (.ref pa0)]) (plainFor_of_name pn3) O0 (hEW hw) (hSA hw) ?_
 intro p e s m below meth c B
 have z0 := Ow.old_le O0
 have lpa0 : (pa0 : Nat) < h0.size := hf0.lt
 refine Ow.iloadN (pc' := 1) B e23_0 ?_
 refine Ow.aloadN (pc' := 2) B e23_1 ?_
 refine Ow.Go.old (fun o1 => ?_)
 refine Ow.callStatic (pc' := 5) (W := 1) (k' := 0) (n' := 0) (argsL := [(.ref pa0)]) (rest := [(.int 2)]) B e23_2 (w139 hw) (w140 hw) (w40 hw) (w141 hw) (con_length_95 hw G GS (pa0 := pa0) (px0 := px0) (px1 := px1) (px2 := px2) (pk0 := pk0) o1 hf0 (by omega) hc_px0 hc_px1 hc_px2) pd17 ?_
 intro vq2 h3 S4 q2 zh3
 obtain ⟨rfl, rfl, rfl⟩ := q2
 refine Ow.Go.nr (S' := []) (st' := [(.int 3), (.int 2)]) ?_
 refine Ow.Go.old (fun o5 => ?_)
 refine Ow.callStatic (pc' := 8) (W := 0) (k' := 0) (n' := 0) (argsL := [(.int 2), (.int 3)]) (rest := []) B e23_5 (w142 hw) (w76 hw) (w8 hw) (w77 hw) (con_checkIndex_26 hw G GS (px0 := (2 : Int32)) (px1 := (3 : Int32)) o5 (by decide) (by decide)) pd16 ?_
 intro vq6 h7 S8 q6 zh7
 obtain ⟨rfl, rfl, rfl⟩ := q6
 refine Ow.Go.nr (S' := []) (st' := []) ?_
 exact Ow.retV (S' := []) B e23_8 (⟨rfl, rfl, rfl⟩)
set_option maxRecDepth 65536 in
set_option maxHeartbeats 40000000 in
theorem con_getChar_109 (hw : Hw a0 Z) (G : Ow.Glo Z cz sf) (GS : GlS Z) {pa0 : Nat} {px0 : Int32} {px1 : Int32} {px2 : Int32} {pk0 : ClassId} {h0 : Heap} (O0 : Old Z n0 h0) (hf0 : Arv Z h0 pa0 pk0 .byte (6 : Int32) [(.int px0.toInt8.toInt32), (.int (px0 >>> ((8 : Int32) &&& 31)).toInt8.toInt32), (.int px1.toInt8.toInt32), (.int (px1 >>> ((8 : Int32) &&& 31)).toInt8.toInt32), (.int px2.toInt8.toInt32), (.int (px2 >>> ((8 : Int32) &&& 31)).toInt8.toInt32)] (.int 0)) (hn0 : n0 ≤ pa0) (hk0 : ¬ (px2 < (0 : Int32))) (hk1 : ¬ ((65535 : Int32) < px2)) (hc_px0 : nar .char px0 = px0) (hc_px1 : nar .char px1 = px1) (hc_px2 : nar .char px2 = px2) :
    Ow.Con l Z EL1 n0 my10 jdk_52_method_5_code 2 (Option.some Jvm.ClassFile.FieldType.char) [] ({ frames := 0, cells := 0, slots := 0, locals := 0 } : Room) #[(.ref pa0), (.int 2)] [] h0 (fun v h S' => (v = some (.int px2) ∧ h = h0 ∧ S' = [])) := by
 refine Ow.Con.enter (Ls := #[.val (.ref pa0), .val (.int 2)]) (plainFor_of_name pn3) O0 (hEW hw) (hSA hw) ?_
 intro p e s m below meth c B
 have z0 := Ow.old_le O0
 have lpa0 : (pa0 : Nat) < h0.size := hf0.lt
 refine Ow.getstatic (pc' := 3) B e11_0 (w127 hw) Via.refl GS.1 ?_
 refine Ow.ifT (pc' := 28) B e11_3 (by decide) ?_
 refine Ow.iloadN (pc' := 29) B e11_28 ?_
 refine Ow.iconst (pc' := 30) (x := 1) B e11_29 ?_
 refine Ow.ishl (pc' := 31) (z := 4) B e11_30 ?_
 refine Ow.istoreN (pc' := 32) (Ls' := #[.val (.ref pa0), .val (.int 4)]) B e11_31 ?_
 refine Ow.aloadN (pc' := 33) B e11_32 ?_
 refine Ow.iloadN (pc' := 34) B e11_33 ?_
 refine Ow.iinc (pc' := 37) (y := 5) (Ls' := #[.val (.ref pa0), .val (.int 5)]) B e11_34 ?_
 refine Ow.baload (pc' := 38) B e11_37 hf0 ⟨by decide, by decide⟩ rfl ?_
 refine Ow.sipush (pc' := 41) (x := 255) B e11_38 ?_
 refine Ow.iand (pc' := 42) (z := (px2.toInt8.toInt32 &&& (255 : Int32))) B e11_41 ?_
 refine Ow.getstatic (pc' := 45) B e11_42 (w128 hw) Via.refl GS.2.1 ?_
 refine Ow.ishl (pc' := 46) (z := ((px2.toInt8.toInt32 &&& (255 : Int32)) <<< ((0 : Int32) &&& 31))) B e11_45 ?_
 refine Ow.aloadN (pc' := 47) B e11_46 ?_
 refine Ow.iloadN (pc' := 48) B e11_47 ?_
 refine Ow.baload (pc' := 49) B e11_48 hf0 ⟨by decide, by decide⟩ rfl ?_
 refine Ow.sipush (pc' := 52) (x := 255) B e11_49 ?_
 refine Ow.iand (pc' := 53) (z := ((px2 >>> ((8 : Int32) &&& 31)).toInt8.toInt32 &&& (255 : Int32))) B e11_52 ?_
 refine Ow.getstatic (pc' := 56) B e11_53 (w129 hw) Via.refl GS.2.2 ?_
 refine Ow.ishl (pc' := 57) (z := (((px2 >>> ((8 : Int32) &&& 31)).toInt8.toInt32 &&& (255 : Int32)) <<< ((8 : Int32) &&& 31))) B e11_56 ?_
 refine Ow.ior (pc' := 58) (z := px2) (hz := (Ow.u16 (hk0) (hk1))) B e11_57 ?_
 refine Ow.i2c (pc' := 59) (z := px2) (hz := hc_px2) B e11_58 ?_
 exact Ow.retI (S' := []) (t := .char) (hnn := (Ow.cnarrow hc_px2)) B e11_59 (⟨rfl, rfl, rfl⟩)
set_option maxRecDepth 65536 in
set_option maxHeartbeats 40000000 in
theorem con_charAt_110 (hw : Hw a0 Z) (G : Ow.Glo Z cz sf) (GS : GlS Z) {pa0 : Nat} {px0 : Int32} {px1 : Int32} {px2 : Int32} {pk0 : ClassId} {h0 : Heap} (O0 : Old Z n0 h0) (hf0 : Arv Z h0 pa0 pk0 .byte (6 : Int32) [(.int px0.toInt8.toInt32), (.int (px0 >>> ((8 : Int32) &&& 31)).toInt8.toInt32), (.int px1.toInt8.toInt32), (.int (px1 >>> ((8 : Int32) &&& 31)).toInt8.toInt32), (.int px2.toInt8.toInt32), (.int (px2 >>> ((8 : Int32) &&& 31)).toInt8.toInt32)] (.int 0)) (hn0 : n0 ≤ pa0) (hk0 : ¬ (px2 < (0 : Int32))) (hk1 : ¬ ((65535 : Int32) < px2)) (hc_px0 : nar .char px0 = px0) (hc_px1 : nar .char px1 = px1) (hc_px2 : nar .char px2 = px2) :
    Ow.Con l Z EL1 n0 my23 jdk_52_method_83_code 2 (Option.some Jvm.ClassFile.FieldType.char) [] ({ frames := 3, cells := 0, slots := 0, locals := 40 } : Room) #[(.ref pa0), (.int 2)] [] h0 (fun v h S' => (v = some (.int px2) ∧ h = h0 ∧ S' = [])) := by
 refine Ow.Con.enter (Ls := #[.val (.ref pa0), .val (.int 2)]) (plainFor_of_name pn3) O0 (hEW hw) (hSA hw) ?_
 intro p e s m below meth c B
 have z0 := Ow.old_le O0
 have lpa0 : (pa0 : Nat) < h0.size := hf0.lt
 refine Ow.iloadN (pc' := 1) B e22_0 ?_
 refine Ow.aloadN (pc' := 2) B e22_1 ?_
 refine Ow.Go.old (fun o1 => ?_)
 refine Ow.callStatic (pc' := 5) (W := 0) (k' := 0) (n' := 0) (argsL := [(.int 2), (.ref pa0)]) (rest := []) B e22_2 (w136 hw) (w137 hw) (w40 hw) (w138 hw) (con_checkIndex_108 hw G GS (pa0 := pa0) (px0 := px0) (px1 := px1) (px2 := px2) (pk0 := pk0) o1 hf0 (by omega) hc_px0 hc_px1 hc_px2) pd18 ?_
 intro vq2 h3 S4 q2 zh3
 obtain ⟨rfl, rfl, rfl⟩ := q2
 refine Ow.Go.nr (S' := []) (st' := []) ?_
 refine Ow.aloadN (pc' := 6) B e22_5 ?_
 refine Ow.iloadN (pc' := 7) B e22_6 ?_
 refine Ow.Go.old (fun o5 => ?_)
 refine Ow.callStatic (pc' := 10) (W := 0) (k' := 0) (n' := 0) (argsL := [(.ref pa0), (.int 2)]) (rest := []) B e22_7 (w130 hw) (w131 hw) (w40 hw) (w132 hw) (con_getChar_109 hw G GS (pa0 := pa0) (px0 := px0) (px1 := px1) (px2 := px2) (pk0 := pk0) o5 hf0 (by omega) (hk0) (hk1) hc_px0 hc_px1 hc_px2) pd10 ?_
 intro vq6 h7 S8 q6 zh7
 obtain ⟨rfl, rfl, rfl⟩ := q6
 refine Ow.Go.nr (S' := []) (st' := [(.int px2)]) ?_
 exact Ow.retI (S' := []) (t := .char) (hnn := (Ow.cnarrow hc_px2)) B e22_10 (⟨rfl, rfl, rfl⟩)
set_option maxRecDepth 65536 in
set_option maxHeartbeats 40000000 in
theorem con_charAt_111 (hw : Hw a0 Z) (G : Ow.Glo Z cz sf) (GS : GlS Z) {pa0 : Nat} {pa1 : Nat} {px0 : Int32} {px1 : Int32} {px2 : Int32} {pk0 : ClassId} {h0 : Heap} (O0 : Old Z n0 h0) (hf0 : Ow.Chs Z h0 pa0 pa1 pk0 [px0, px1, px2]) (hn0 : n0 ≤ pa0) (hn1 : n0 ≤ pa1) (hk0 : ¬ (px2 < (0 : Int32))) (hk1 : ¬ ((65535 : Int32) < px2)) (hc_px0 : nar .char px0 = px0) (hc_px1 : nar .char px1 = px1) (hc_px2 : nar .char px2 = px2) :
    Ow.Con l Z EL1 n0 my24 jdk_42_method_56_code 2 (Option.some Jvm.ClassFile.FieldType.char) [] ({ frames := 4, cells := 0, slots := 0, locals := 53 } : Room) #[(.ref pa0), (.int 2)] [] h0 (fun v h S' => (v = some (.int px2) ∧ h = h0 ∧ S' = [])) := by
 rcases hf0.2.2.2 with ⟨oc_hf0, oa_hf0, ol_hf0⟩ | ⟨oc_hf0, oa_hf0, ou_hf0⟩
 ·refine Ow.Con.enter (Ls := #[.val (.ref pa0), .val (.int 2)]) (plainFor_of_name pn1) O0 (hEW hw) (hSA hw) ?_
  intro p e s m below meth c B
  have z0 := Ow.old_le O0
  have oE_hf0 := hf0.1
  have oV_hf0 := hf0.2.1
  have oR_hf0 := hf0.2.2.1
  have oA_hf0 : Arv Z h0 pa1 pk0 .byte (3 : Int32) [(.int px0.toInt8.toInt32), (.int px1.toInt8.toInt32), (.int px2.toInt8.toInt32)] (.int 0) := oa_hf0
  have lpa0 : (pa0 : Nat) < h0.size := hf0.lt
  have lpa1 : (pa1 : Nat) < h0.size := oA_hf0.lt
  have lpa1 : (pa1 : Nat) < h0.size := hf0.ltt
  refine Ow.aloadN (pc' := 1) B e17_0 ?_
  refine Ow.Go.old (fun o1 => ?_)
  refine Ow.callVirtual (pc' := 4) (W := 0) (k' := 0) (n' := 0) (argsL := []) (rest := []) (K := "java/lang/String") B e17_1 (w66 hw) (w67 hw) (w69 hw) (w69 hw) (w68 hw) (w8 hw) (w70 hw) oE_hf0 (con_isLatin1_24 hw G GS (pa0 := pa0) o1 oc_hf0 (by omega)) pd3 ?_
  intro vq2 h3 S4 q2 zh3
  obtain ⟨rfl, rfl, rfl⟩ := q2
  refine Ow.Go.nr (S' := []) (st' := [(.int 1)]) ?_
  refine Ow.ifF (pc' := 7) B e17_4 (by decide) ?_
  refine Ow.aloadN (pc' := 8) B e17_7 ?_
  refine Ow.getfield (pc' := 11) B e17_8 (w26 hw) Via.refl oV_hf0 ?_
  refine Ow.iloadN (pc' := 12) B e17_11 ?_
  refine Ow.Go.old (fun o5 => ?_)
  refine Ow.callStatic (pc' := 15) (W := 0) (k' := 0) (n' := 0) (argsL := [(.ref pa1), (.int 2)]) (rest := []) B e17_12 (w71 hw) (w72 hw) (w73 hw) (w74 hw) (con_charAt_107 hw G GS (pa0 := pa1) (px0 := px0) (px1 := px1) (px2 := px2) (pk0 := pk0) o5 oA_hf0 (by omega) (hk0) (ol_hf0 px2 (by simp)) hc_px0 hc_px1 hc_px2) pd10 ?_
  intro vq6 h7 S8 q6 zh7
  obtain ⟨rfl, rfl, rfl⟩ := q6
  refine Ow.Go.nr (S' := []) (st' := [(.int px2)]) ?_
  exact Ow.retI (S' := []) (t := .char) (hnn := (Ow.cnarrow hc_px2)) B e17_15 (⟨rfl, rfl, rfl⟩)
 ·refine Ow.Con.enter (Ls := #[.val (.ref pa0), .val (.int 2)]) (plainFor_of_name pn1) O0 (hEW hw) (hSA hw) ?_
  intro p e s m below meth c B
  have z0 := Ow.old_le O0
  have oE_hf0 := hf0.1
  have oV_hf0 := hf0.2.1
  have oR_hf0 := hf0.2.2.1
  have oA_hf0 : Arv Z h0 pa1 pk0 .byte (6 : Int32) [(.int px0.toInt8.toInt32), (.int (px0 >>> ((8 : Int32) &&& 31)).toInt8.toInt32), (.int px1.toInt8.toInt32), (.int (px1 >>> ((8 : Int32) &&& 31)).toInt8.toInt32), (.int px2.toInt8.toInt32), (.int (px2 >>> ((8 : Int32) &&& 31)).toInt8.toInt32)] (.int 0) := oa_hf0
  have lpa0 : (pa0 : Nat) < h0.size := hf0.lt
  have lpa1 : (pa1 : Nat) < h0.size := oA_hf0.lt
  have lpa1 : (pa1 : Nat) < h0.size := hf0.ltt
  refine Ow.aloadN (pc' := 1) B e17_0 ?_
  refine Ow.Go.old (fun o1 => ?_)
  refine Ow.callVirtual (pc' := 4) (W := 0) (k' := 0) (n' := 0) (argsL := []) (rest := []) (K := "java/lang/String") B e17_1 (w66 hw) (w67 hw) (w69 hw) (w69 hw) (w68 hw) (w8 hw) (w70 hw) oE_hf0 (con_isLatin1_28 hw G GS (pa0 := pa0) o1 oc_hf0 (by omega)) pd3 ?_
  intro vq2 h3 S4 q2 zh3
  obtain ⟨rfl, rfl, rfl⟩ := q2
  refine Ow.Go.nr (S' := []) (st' := [(.int 0)]) ?_
  refine Ow.ifT (pc' := 16) B e17_4 (by decide) ?_
  refine Ow.aloadN (pc' := 17) B e17_16 ?_
  refine Ow.getfield (pc' := 20) B e17_17 (w26 hw) Via.refl oV_hf0 ?_
  refine Ow.iloadN (pc' := 21) B e17_20 ?_
  refine Ow.Go.old (fun o5 => ?_)
  refine Ow.callStatic (pc' := 24) (W := 0) (k' := 0) (n' := 0) (argsL := [(.ref pa1), (.int 2)]) (rest := []) B e17_21 (w133 hw) (w134 hw) (w40 hw) (w135 hw) (con_charAt_110 hw G GS (pa0 := pa1) (px0 := px0) (px1 := px1) (px2 := px2) (pk0 := pk0) o5 oA_hf0 (by omega) (hk0) (hk1) hc_px0 hc_px1 hc_px2) pd10 ?_
  intro vq6 h7 S8 q6 zh7
  obtain ⟨rfl, rfl, rfl⟩ := q6
  refine Ow.Go.nr (S' := []) (st' := [(.int px2)]) ?_
  exact Ow.retI (S' := []) (t := .char) (hnn := (Ow.cnarrow hc_px2)) B e17_24 (⟨rfl, rfl, rfl⟩)
set_option maxRecDepth 65536 in
set_option maxHeartbeats 40000000 in
theorem con_isToken_112 (hw : Hw a0 Z) (G : Ow.Glo Z cz sf) (GS : GlS Z) {pa0 : Nat} {pa1 : Nat} {px0 : Int32} {px1 : Int32} {px2 : Int32} {pk0 : ClassId} {h0 : Heap} (O0 : Old Z n0 h0) (hf0 : Ow.Chs Z h0 pa0 pa1 pk0 [px0, px1, px2]) (hn0 : n0 ≤ pa0) (hn1 : n0 ≤ pa1) (hk0 : ¬ (px0 < (0 : Int32))) (hk1 : ¬ ((65535 : Int32) < px0)) (hk2 : ¬ (px1 < (0 : Int32))) (hk3 : ¬ ((65535 : Int32) < px1)) (hk4 : ¬ (px2 < (0 : Int32))) (hk5 : ¬ ((65535 : Int32) < px2)) (hk6 : tokP px0) (hk7 : tokP px1) (hk8 : ¬ (tokP px2)) (hc_px0 : nar .char px0 = px0) (hc_px1 : nar .char px1 = px1) (hc_px2 : nar .char px2 = px2) :
    Ow.Con l Z EL1 n0 my4 prog_28_method_5_code 4 (Option.some Jvm.ClassFile.FieldType.boolean) [] ({ frames := 5, cells := 6, slots := 192, locals := 66 } : Room) #[(.ref pa0)] [] h0 (fun v h S' => (v = some (.int 0) ∧ Keep h0 h [] ∧ ¬ (symP px2) ∧ S' = [])) := by
 refine Ow.Con.enter (Ls := #[.val (.ref pa0), .unset, .unset, .unset]) (plainFor_of_name pn2) O0 (hEW hw) (hSA hw) ?_
 intro p e s m below meth c B
 have z0 := Ow.old_le O0
 have lpa0 : (pa0 : Nat) < h0.size := hf0.lt
 have lpa1 : (pa1 : Nat) < h0.size := hf0.ltt
 refine Ow.aloadN (pc' := 1) B e0_0 ?_
 refine Ow.Go.old (fun o1 => ?_)
 refine Ow.callVirtual (pc' := 4) (W := 0) (k' := 0) (n' := 0) (argsL := []) (rest := []) (K := "java/lang/String") B e0_1 (w32 hw) (w33 hw) (w35 hw) (w35 hw) (w34 hw) (w8 hw) (w36 hw) (hf0).1 (con_isEmpty_92 hw G GS (pa0 := pa0) (pa1 := pa1) (px0 := px0) (px1 := px1) (px2 := px2) (pk0 := pk0) o1 hf0 (by omega) (by omega) hc_px0 hc_px1 hc_px2) pd3 ?_
 intro vq2 h3 S4 q2 zh3
 obtain ⟨rfl, rfl, rfl⟩ := q2
 refine Ow.Go.nr (S' := []) (st' := [(.int 0)]) ?_
 refine Ow.ifT (pc' := 9) B e0_4 (by decide) ?_
 refine Ow.iconst (pc' := 10) (x := 0) B e0_9 ?_
 refine Ow.istoreN (pc' := 11) (Ls' := #[.val (.ref pa0), .val (.int 0), .unset, .unset]) B e0_10 ?_
 refine Ow.iloadN (pc' := 12) B e0_11 ?_
 refine Ow.aloadN (pc' := 13) B e0_12 ?_
 refine Ow.Go.old (fun o5 => ?_)
 refine Ow.callVirtual (pc' := 16) (W := 1) (k' := 0) (n' := 0) (argsL := []) (rest := [(.int 0)]) (K := "java/lang/String") B e0_13 (w51 hw) (w52 hw) (w54 hw) (w54 hw) (w53 hw) (w8 hw) (w55 hw) (hf0).1 (con_length_93 hw G GS (pa0 := pa0) (pa1 := pa1) (px0 := px0) (px1 := px1) (px2 := px2) (pk0 := pk0) o5 hf0 (by omega) (by omega) hc_px0 hc_px1 hc_px2) pd14 ?_
 intro vq6 h7 S8 q6 zh7
 obtain ⟨rfl, rfl, rfl⟩ := q6
 refine Ow.Go.nr (S' := []) (st' := [(.int 3), (.int 0)]) ?_
 refine Ow.icmpF (pc' := 19) B e0_16 (by decide) ?_
 refine Ow.aloadN (pc' := 20) B e0_19 ?_
 refine Ow.iloadN (pc' := 21) B e0_20 ?_
 refine Ow.Go.old (fun o9 => ?_)
 refine Ow.callVirtual (pc' := 24) (W := 0) (k' := 0) (n' := 0) (argsL := [(.int 0)]) (rest := []) (K := "java/lang/String") B e0_21 (w61 hw) (w62 hw) (w64 hw) (w64 hw) (w63 hw) (w8 hw) (w65 hw) (hf0).1 (con_charAt_99 hw G GS (pa0 := pa0) (pa1 := pa1) (px0 := px0) (px1 := px1) (px2 := px2) (pk0 := pk0) o9 hf0 (by omega) (by omega) (hk0) (hk1) hc_px0 hc_px1 hc_px2) pd19 ?_
 intro vq10 h11 S12 q10 zh11
 obtain ⟨rfl, rfl, rfl⟩ := q10
 refine Ow.Go.nr (S' := []) (st' := [(.int px0)]) ?_
 refine Ow.istoreN (pc' := 25) (Ls' := #[.val (.ref pa0), .val (.int 0), .val (.int px0), .unset]) B e0_24 ?_
 refine Ow.Go.joinH (α := Int32) (pc1 := 82) (k1 := 2) (n1 := 64) (fun b => #[.val (.ref pa0), .val (.int 0), .val (.int px0), .val (.int b)]) (fun _ => []) ?_ ?_
 ·intro h14 Kh14 b13
  have zh14 := Kh14.1
  refine Ow.iinc (pc' := 85) (y := 1) (Ls' := #[.val (.ref pa0), .val (.int 1), .val (.int px0), .val (.int b13)]) B e0_82 ?_
  refine Ow.goto (pc' := 11) B e0_85 ?_
  refine Ow.iloadN (pc' := 12) B e0_11 ?_
  refine Ow.aloadN (pc' := 13) B e0_12 ?_
  refine Ow.Go.old (fun o15 => ?_)
  have f16 := hf0.keep Kh14 Ow.nin0 Ow.nin0
  refine Ow.callVirtual (pc' := 16) (W := 1) (k' := 2) (n' := 64) (argsL := []) (rest := [(.int 1)]) (K := "java/lang/String") B e0_13 (w51 hw) (w52 hw) (w54 hw) (w54 hw) (w53 hw) (w8 hw) (w55 hw) (f16).1 (con_length_93 hw G GS (pa0 := pa0) (pa1 := pa1) (px0 := px0) (px1 := px1) (px2 := px2) (pk0 := pk0) o15 f16 (by omega) (by omega) hc_px0 hc_px1 hc_px2) pd14 ?_
  intro vq17 h18 S19 q17 zh18
  obtain ⟨rfl, rfl, rfl⟩ := q17
  refine Ow.Go.nr (S' := []) (st' := [(.int 3), (.int 1)]) ?_
  refine Ow.icmpF (pc' := 19) B e0_16 (by decide) ?_
  refine Ow.aloadN (pc' := 20) B e0_19 ?_
  refine Ow.iloadN (pc' := 21) B e0_20 ?_
  refine Ow.Go.old (fun o20 => ?_)
  refine Ow.callVirtual (pc' := 24) (W := 0) (k' := 2) (n' := 64) (argsL := [(.int 1)]) (rest := []) (K := "java/lang/String") B e0_21 (w61 hw) (w62 hw) (w64 hw) (w64 hw) (w63 hw) (w8 hw) (w65 hw) (f16).1 (con_charAt_105 hw G GS (pa0 := pa0) (pa1 := pa1) (px0 := px0) (px1 := px1) (px2 := px2) (pk0 := pk0) o20 f16 (by omega) (by omega) (hk2) (hk3) hc_px0 hc_px1 hc_px2) pd19 ?_
  intro vq21 h22 S23 q21 zh22
  obtain ⟨rfl, rfl, rfl⟩ := q21
  refine Ow.Go.nr (S' := []) (st' := [(.int px1)]) ?_
  refine Ow.istoreN (pc' := 25) (Ls' := #[.val (.ref pa0), .val (.int 1), .val (.int px1), .val (.int b13)]) B e0_24 ?_
  refine Ow.Go.joinH (α := Int32) (pc1 := 82) (k1 := 4) (n1 := 128) (fun b => #[.val (.ref pa0), .val (.int 1), .val (.int px1), .val (.int b)]) (fun _ => []) ?_ ?_
  ·intro h25 Kh25 b24
   have zh25 := Kh25.1
   refine Ow.iinc (pc' := 85) (y := 2) (Ls' := #[.val (.ref pa0), .val (.int 2), .val (.int px1), .val (.int b24)]) B e0_82 ?_
   refine Ow.goto (pc' := 11) B e0_85 ?_
   refine Ow.iloadN (pc' := 12) B e0_11 ?_
   refine Ow.aloadN (pc' := 13) B e0_12 ?_
   refine Ow.Go.old (fun o26 => ?_)
   have f27 := f16.keep Kh25 Ow.nin0 Ow.nin0
   refine Ow.callVirtual (pc' := 16) (W := 1) (k' := 4) (n' := 128) (argsL := []) (rest := [(.int 2)]) (K := "java/lang/String") B e0_13 (w51 hw) (w52 hw) (w54 hw) (w54 hw) (w53 hw) (w8 hw) (w55 hw) (f27).1 (con_length_93 hw G GS (pa0 := pa0) (pa1 := pa1) (px0 := px0) (px1 := px1) (px2 := px2) (pk0 := pk0) o26 f27 (by omega) (by omega) hc_px0 hc_px1 hc_px2) pd14 ?_
   intro vq28 h29 S30 q28 zh29
   obtain ⟨rfl, rfl, rfl⟩ := q28
   refine Ow.Go.nr (S' := []) (st' := [(.int 3), (.int 2)]) ?_
   refine Ow.icmpF (pc' := 19) B e0_16 (by decide) ?_
   refine Ow.aloadN (pc' := 20) B e0_19 ?_
   refine Ow.iloadN (pc' := 21) B e0_20 ?_
   refine Ow.Go.old (fun o31 => ?_)
   refine Ow.callVirtual (pc' := 24) (W := 0) (k' := 4) (n' := 128) (argsL := [(.int 2)]) (rest := []) (K := "java/lang/String") B e0_21 (w61 hw) (w62 hw) (w64 hw) (w64 hw) (w63 hw) (w8 hw) (w65 hw) (f27).1 (con_charAt_111 hw G GS (pa0 := pa0) (pa1 := pa1) (px0 := px0) (px1 := px1) (px2 := px2) (pk0 := pk0) o31 f27 (by omega) (by omega) (hk4) (hk5) hc_px0 hc_px1 hc_px2) pd19 ?_
   intro vq32 h33 S34 q32 zh33
   obtain ⟨rfl, rfl, rfl⟩ := q32
   refine Ow.Go.nr (S' := []) (st' := [(.int px2)]) ?_
   refine Ow.istoreN (pc' := 25) (Ls' := #[.val (.ref pa0), .val (.int 2), .val (.int px2), .val (.int b24)]) B e0_24 ?_
   by_cases c35 : alP px2
   ·exact absurd (Or.inl c35) (hk8)
   ·refine blk_no_b hw B (pb := b24) ⟨hk4, hk5⟩ c35 (fun b36 => ?_)
    refine Ow.ldcText (pc' := 73) (k' := 6) (n' := 192) (nn := 60) (vs := [(.int 33), (.int 35), (.int 36), (.int 37), (.int 38), (.int 39), (.int 42), (.int 43), (.int 45), (.int 46), (.int 94), (.int 95), (.int 96), (.int 124), (.int 126)]) (z := 15) B e0_71 (w83 hw) (by decide) ⟨by decide, by decide⟩ (by decide) (by decide) ?_
    intro h38 a37 t39 kt39 Kh38 Ea37 Ca37 Va37 At39 Na37
    have zh38 := Kh38.1
    have la37 : (a37 : Nat) < h38.size := Ea37.lt
    have lt39 : (t39 : Nat) < h38.size := At39.lt
    refine Ow.iloadN (pc' := 74) B e0_73 ?_
    refine Ow.Go.old (fun o40 => ?_)
    refine Ow.callVirtual (pc' := 77) (W := 0) (k' := 6) (n' := 192) (argsL := [(.int px2)]) (rest := []) (K := "java/lang/String") B e0_74 (w84 hw) (w85 hw) (w87 hw) (w87 hw) (w86 hw) (w8 hw) (w88 hw) Ea37 (con_indexOf_43 hw G GS (pa0 := a37) (pa1 := t39) (px0 := px2) (pk0 := kt39) o40 Ea37 Ca37 Va37 At39 (hk4) hc_px2) pd6 ?_
    intro vq41 h42 S43 q41 zh42
    rcases q41 with q41 | q41
    ·obtain ⟨y44, rfl, rfl, c45, c46, rfl⟩ := q41
     refine Ow.Go.nr (S' := []) (st' := [(.int y44)]) ?_
     refine Ow.ifF (pc' := 80) B e0_77 (tlt (c46)).2.1 ?_
     refine Ow.iconst (pc' := 81) (x := 0) B e0_80 ?_
     exact Ow.retI (S' := []) (t := .boolean) B e0_81 (⟨rfl, ((((Keep.refl _ []).trans Kh14 (fun _ q => nomatch q)).trans Kh25 (fun _ q => nomatch q)).trans Kh38 (fun _ q => nomatch q)), c45, rfl⟩)
    ·obtain ⟨y47, rfl, rfl, c48, c49, rfl⟩ := q41
     refine Ow.Go.nr (S' := []) (st' := [(.int y47)]) ?_
     refine Ow.ifT (pc' := 82) B e0_77 (flt (c49)).2.1 ?_
     exact absurd (Or.inr (c48)) (hk8)
  ·intro J50
   by_cases c51 : alP px1
   ·refine blk_al_b hw B (pb := b13) ⟨hk2, hk3⟩ c51 (fun b52 => ?_)
    exact Ow.Go.mono (k' := 4) (n' := 128) (by decide) (by decide) (by simp) (J50 _ (Keep.refl _ []) _)
   ·refine blk_no_b hw B (pb := b13) ⟨hk2, hk3⟩ c51 (fun b53 => ?_)
    refine Ow.ldcText (pc' := 73) (k' := 4) (n' := 128) (nn := 60) (vs := [(.int 33), (.int 35), (.int 36), (.int 37), (.int 38), (.int 39), (.int 42), (.int 43), (.int 45), (.int 46), (.int 94), (.int 95), (.int 96), (.int 124), (.int 126)]) (z := 15) B e0_71 (w83 hw) (by decide) ⟨by decide, by decide⟩ (by decide) (by decide) ?_
    intro h55 a54 t56 kt56 Kh55 Ea54 Ca54 Va54 At56 Na54
    have zh55 := Kh55.1
    have la54 : (a54 : Nat) < h55.size := Ea54.lt
    have lt56 : (t56 : Nat) < h55.size := At56.lt
    refine Ow.iloadN (pc' := 74) B e0_73 ?_
    refine Ow.Go.old (fun o57 => ?_)
    refine Ow.callVirtual (pc' := 77) (W := 0) (k' := 4) (n' := 128) (argsL := [(.int px1)]) (rest := []) (K := "java/lang/String") B e0_74 (w84 hw) (w85 hw) (w87 hw) (w87 hw) (w86 hw) (w8 hw) (w88 hw) Ea54 (con_indexOf_43 hw G GS (pa0 := a54) (pa1 := t56) (px0 := px1) (pk0 := kt56) o57 Ea54 Ca54 Va54 At56 (hk2) hc_px1) pd6 ?_
    intro vq58 h59 S60 q58 zh59
    rcases q58 with q58 | q58
    ·obtain ⟨y61, rfl, rfl, c62, c63, rfl⟩ := q58
     refine Ow.Go.nr (S' := []) (st' := [(.int y61)]) ?_
     refine Ow.ifF (pc' := 80) B e0_77 (tlt (c63)).2.1 ?_
     exact absurd (hk7) (fun q => q.elim (fun q => c51 q) (c62))
    ·obtain ⟨y64, rfl, rfl, c65, c66, rfl⟩ := q58
     refine Ow.Go.nr (S' := []) (st' := [(.int y64)]) ?_
     refine Ow.ifT (pc' := 82) B e0_77 (flt (c66)).2.1 ?_
     exact Ow.Go.mono (k' := 4) (n' := 128) (by decide) (by decide) (by simp) (J50 _ ((Keep.refl _ []).trans Kh55 (fun _ q => nomatch q)) _)
 ·intro J67
  by_cases c68 : alP px0
  ·refine blk_al_u hw B (pb := 0) ⟨hk0, hk1⟩ c68 (fun b69 => ?_)
   exact Ow.Go.mono (k' := 2) (n' := 64) (by decide) (by decide) (by simp) (J67 _ (Keep.refl _ []) _)
  ·refine blk_no_u hw B (pb := 0) ⟨hk0, hk1⟩ c68 (fun b70 => ?_)
   refine Ow.ldcText (pc' := 73) (k' := 2) (n' := 64) (nn := 60) (vs := [(.int 33), (.int 35), (.int 36), (.int 37), (.int 38), (.int 39), (.int 42), (.int 43), (.int 45), (.int 46), (.int 94), (.int 95), (.int 96), (.int 124), (.int 126)]) (z := 15) B e0_71 (w83 hw) (by decide) ⟨by decide, by decide⟩ (by decide) (by decide) ?_
   intro h72 a71 t73 kt73 Kh72 Ea71 Ca71 Va71 At73 Na71
   have zh72 := Kh72.1
   have la71 : (a71 : Nat) < h72.size := Ea71.lt
   have lt73 : (t73 : Nat) < h72.size := At73.lt
   refine Ow.iloadN (pc' := 74) B e0_73 ?_
   refine Ow.Go.old (fun o74 => ?_)
   refine Ow.callVirtual (pc' := 77) (W := 0) (k' := 2) (n' := 64) (argsL := [(.int px0)]) (rest := []) (K := "java/lang/String") B e0_74 (w84 hw) (w85 hw) (w87 hw) (w87 hw) (w86 hw) (w8 hw) (w88 hw) Ea71 (con_indexOf_43 hw G GS (pa0 := a71) (pa1 := t73) (px0 := px0) (pk0 := kt73) o74 Ea71 Ca71 Va71 At73 (hk0) hc_px0) pd6 ?_
   intro vq75 h76 S77 q75 zh76
   rcases q75 with q75 | q75
   ·obtain ⟨y78, rfl, rfl, c79, c80, rfl⟩ := q75
    refine Ow.Go.nr (S' := []) (st' := [(.int y78)]) ?_
    refine Ow.ifF (pc' := 80) B e0_77 (tlt (c80)).2.1 ?_
    exact absurd (hk6) (fun q => q.elim (fun q => c68 q) (c79))
   ·obtain ⟨y81, rfl, rfl, c82, c83, rfl⟩ := q75
    refine Ow.Go.nr (S' := []) (st' := [(.int y81)]) ?_
    refine Ow.ifT (pc' := 82) B e0_77 (flt (c83)).2.1 ?_
    exact Ow.Go.mono (k' := 2) (n' := 64) (by decide) (by decide) (by simp) (J67 _ ((Keep.refl _ []).trans Kh72 (fun _ q => nomatch q)) _)
set_option maxRecDepth 65536 in
set_option maxHeartbeats 40000000 in
theorem seg132_9 (hw : Hw a0 Z) (G : Ow.Glo Z cz sf) (GS : GlS Z) {pa0 : Nat} {pa1 : Nat} {px0 : Int32} {px1 : Int32} {px2 : Int32} {pk0 : ClassId} {dl0 : Int32} {dl1 : Int32} {dl2 : Int32} {dl3 : Int32} {dl4 : Int32} {dl5 : Int32} {dl6 : Int32} {dl7 : Int32} {dl8 : Int32} {dl9 : Int32} {p : Program} {e : Env} {s : State} {m : MethodId} {args : Array Value} {below : List Frame} {meth : Method} {c : ClassFile.Code} (B : Ow.Bdy p meth c Z EL1 a0 code maxLocals ret x.name) {h0 : Heap} (O0 : Old Z n0 h0) (hf0 : Ow.Chs Z h0 pa0 pa1 pk0 [px0, px1, px2]) (hn0 : n0 ≤ pa0) (hn1 : n0 ≤ pa1) (hk0 : ¬ (px0 < (0 : Int32))) (hk1 : ¬ ((65535 : Int32) < px0)) (hk2 : ¬ (px1 < (0 : Int32))) (hk3 : ¬ ((65535 : Int32) < px1)) (hk4 : ¬ (px2 < (0 : Int32))) (hk5 : ¬ ((65535 : Int32) < px2)) (hk6 : tokP px0) (hk7 : tokP px1) (hk8 : ¬ (tokP px2)) (hc_px0 : nar .char px0 = px0) (hc_px1 : nar .char px1 = px1) (hc_px2 : nar .char px2 = px2) :
  Ow.Go p l e room_1 s m args below meth c Z EL1 n0 x.cls (fun v _ _ => v = some (.int 1)) [] h0 18 1984 132 #[.val (.int dl0), .val (.int dl1), .val (.int dl2), .val (.int dl3), .val (.int dl4), .val (.int dl5), .val (.int dl6), .val (.int dl7), .val (.int dl8), .val (.int dl9), .val (.ref pa0), .val (.int 0)] [] := by
 have z0 := Ow.old_le O0
 have lpa0 : (pa0 : Nat) < h0.size := hf0.lt
 have lpa1 : (pa1 : Nat) < h0.size := hf0.ltt
 refine Ow.aload (pc' := 134) B at_132 ?_
 refine Ow.Go.old (fun o1 => ?_)
 refine Ow.callStatic (pc' := 137) (W := 0) (k' := 24) (n' := 2176) (argsL := [(.ref pa0)]) (rest := []) B at_134 (w28 hw) (w29 hw) (w30 hw) (w31 hw) (con_isToken_112 hw G GS (pa0 := pa0) (pa1 := pa1) (px0 := px0) (px1 := px1) (px2 := px2) (pk0 := pk0) o1 hf0 (by omega) (by omega) (hk0) (hk1) (hk2) (hk3) (hk4) (hk5) (hk6) (hk7) (hk8) hc_px0 hc_px1 hc_px2) pd4 ?_
 intro vq2 h3 S4 q2 zh3
 obtain ⟨rfl, Kh3, c5, rfl⟩ := q2
 refine Ow.Go.nr (S' := []) (st' := [(.int 0)]) ?_
 refine Ow.iload (pc' := 139) B at_137 ?_
 refine Ow.icmpF (pc' := 142) B at_139 (by decide) ?_
 refine Ow.iconst (pc' := 143) (x := 1) B at_142 ?_
 refine Ow.goto (pc' := 147) B at_143 ?_
 exact Ow.retI (S' := []) (t := .boolean) B at_147 (rfl)
set_option maxRecDepth 65536 in
set_option maxHeartbeats 40000000 in
theorem con_isToken_113 (hw : Hw a0 Z) (G : Ow.Glo Z cz sf) (GS : GlS Z) {pa0 : Nat} {pa1 : Nat} {px0 : Int32} {px1 : Int32} {px2 : Int32} {pk0 : ClassId} {h0 : Heap} (O0 : Old Z n0 h0) (hf0 : Ow.Chs Z h0 pa0 pa1 pk0 [px0, px1, px2]) (hn0 : n0 ≤ pa0) (hn1 : n0 ≤ pa1) (hk0 : ¬ (px0 < (0 : Int32))) (hk1 : ¬ ((65535 : Int32) < px0)) (hk2 : ¬ (px1 < (0 : Int32))) (hk3 : ¬ ((65535 : Int32) < px1)) (hk4 : ¬ (px2 < (0 : Int32))) (hk5 : ¬ ((65535 : Int32) < px2)) (hk6 : tokP px0) (hk7 : tokP px1) (hk8 : tokP px2) (hc_px0 : nar .char px0 = px0) (hc_px1 : nar .char px1 = px1) (hc_px2 : nar .char px2 = px2) :
    Ow.Con l Z EL1 n0 my4 prog_28_method_5_code 4 (Option.some Jvm.ClassFile.FieldType.boolean) [] ({ frames := 5, cells := 6, slots := 192, locals := 66 } : Room) #[(.ref pa0)] [] h0 (fun v h S' => (v = some (.int 1) ∧ Keep h0 h [] ∧ S' = [])) := by
 refine Ow.Con.enter (Ls := #[.val (.ref pa0), .unset, .unset, .unset]) (plainFor_of_name pn2) O0 (hEW hw) (hSA hw) ?_
 intro p e s m below meth c B
 have z0 := Ow.old_le O0
 have lpa0 : (pa0 : Nat) < h0.size := hf0.lt
 have lpa1 : (pa1 : Nat) < h0.size := hf0.ltt
 refine Ow.aloadN (pc' := 1) B e0_0 ?_
 refine Ow.Go.old (fun o1 => ?_)
 refine Ow.callVirtual (pc' := 4) (W := 0) (k' := 0) (n' := 0) (argsL := []) (rest := []) (K := "java/lang/String") B e0_1 (w32 hw) (w33 hw) (w35 hw) (w35 hw) (w34 hw) (w8 hw) (w36 hw) (hf0).1 (con_isEmpty_92 hw G GS (pa0 := pa0) (pa1 := pa1) (px0 := px0) (px1 := px1) (px2 := px2) (pk0 := pk0) o1 hf0 (by omega) (by omega) hc_px0 hc_px1 hc_px2) pd3 ?_
 intro vq2 h3 S4 q2 zh3
 obtain ⟨rfl, rfl, rfl⟩ := q2
 refine Ow.Go.nr (S' := []) (st' := [(.int 0)]) ?_
 refine Ow.ifT (pc' := 9) B e0_4 (by decide) ?_
 refine Ow.iconst (pc' := 10) (x := 0) B e0_9 ?_
 refine Ow.istoreN (pc' := 11) (Ls' := #[.val (.ref pa0), .val (.int 0), .unset, .unset]) B e0_10 ?_
 refine Ow.iloadN (pc' := 12) B e0_11 ?_
 refine Ow.aloadN (pc' := 13) B e0_12 ?_
 refine Ow.Go.old (fun o5 => ?_)
 refine Ow.callVirtual (pc' := 16) (W := 1) (k' := 0) (n' := 0) (argsL := []) (rest := [(.int 0)]) (K := "java/lang/String") B e0_13 (w51 hw) (w52 hw) (w54 hw) (w54 hw) (w53 hw) (w8 hw) (w55 hw) (hf0).1 (con_length_93 hw G GS (pa0 := pa0) (pa1 := pa1) (px0 := px0) (px1 := px1) (px2 := px2) (pk0 := pk0) o5 hf0 (by omega) (by omega) hc_px0 hc_px1 hc_px2) pd14 ?_
 intro vq6 h7 S8 q6 zh7
 obtain ⟨rfl, rfl, rfl⟩ := q6
 refine Ow.Go.nr (S' := []) (st' := [(.int 3), (.int 0)]) ?_
 refine Ow.icmpF (pc' := 19) B e0_16 (by decide) ?_
 refine Ow.aloadN (pc' := 20) B e0_19 ?_
 refine Ow.iloadN (pc' := 21) B e0_20 ?_
 refine Ow.Go.old (fun o9 => ?_)
 refine Ow.callVirtual (pc' := 24) (W := 0) (k' := 0) (n' := 0) (argsL := [(.int 0)]) (rest := []) (K := "java/lang/String") B e0_21 (w61 hw) (w62 hw) (w64 hw) (w64 hw) (w63 hw) (w8 hw) (w65 hw) (hf0).1 (con_charAt_99 hw G GS (pa0 := pa0) (pa1 := pa1) (px0 := px0) (px1 := px1) (px2 := px2) (pk0 := pk0) o9 hf0 (by omega) (by omega) (hk0) (hk1) hc_px0 hc_px1 hc_px2) pd19 ?_
 intro vq10 h11 S12 q10 zh11
 obtain ⟨rfl, rfl, rfl⟩ := q10
 refine Ow.Go.nr (S' := []) (st' := [(.int px0)]) ?_
 refine Ow.istoreN (pc' := 25) (Ls' := #[.val (.ref pa0), .val (.int 0), .val (.int px0), .unset]) B e0_24 ?_
 refine Ow.Go.joinH (α := Int32) (pc1 := 82) (k1 := 2) (n1 := 64) (fun b => #[.val (.ref pa0), .val (.int 0), .val (.int px0), .val (.int b)]) (fun _ => []) ?_ ?_
 ·intro h14 Kh14 b13
  have zh14 := Kh14.1
  refine Ow.iinc (pc' := 85) (y := 1) (Ls' := #[.val (.ref pa0), .val (.int 1), .val (.int px0), .val (.int b13)]) B e0_82 ?_
  refine Ow.goto (pc' := 11) B e0_85 ?_
  refine Ow.iloadN (pc' := 12) B e0_11 ?_
  refine Ow.aloadN (pc' := 13) B e0_12 ?_
  refine Ow.Go.old (fun o15 => ?_)
  have f16 := hf0.keep Kh14 Ow.nin0 Ow.nin0
  refine Ow.callVirtual (pc' := 16) (W := 1) (k' := 2) (n' := 64) (argsL := []) (rest := [(.int 1)]) (K := "java/lang/String") B e0_13 (w51 hw) (w52 hw) (w54 hw) (w54 hw) (w53 hw) (w8 hw) (w55 hw) (f16).1 (con_length_93 hw G GS (pa0 := pa0) (pa1 := pa1) (px0 := px0) (px1 := px1) (px2 := px2) (pk0 := pk0) o15 f16 (by omega) (by omega) hc_px0 hc_px1 hc_px2) pd14 ?_
  intro vq17 h18 S19 q17 zh18
  obtain ⟨rfl, rfl, rfl⟩ := q17
  refine Ow.Go.nr (S' := []) (st' := [(.int 3), (.int 1)]) ?_
  refine Ow.icmpF (pc' := 19) B e0_16 (by decide) ?_
  refine Ow.aloadN (pc' := 20) B e0_19 ?_
  refine Ow.iloadN (pc' := 21) B e0_20 ?_
  refine Ow.Go.old (fun o20 => ?_)
  refine Ow.callVirtual (pc' := 24) (W := 0) (k' := 2) (n' := 64) (argsL := [(.int 1)]) (rest := []) (K := "java/lang/String") B e0_21 (w61 hw) (w62 hw) (w64 hw) (w64 hw) (w63 hw) (w8 hw) (w65 hw) (f16).1 (con_charAt_105 hw G GS (pa0 := pa0) (pa1 := pa1) (px0 := px0) (px1 := px1) (px2 := px2) (pk0 := pk0) o20 f16 (by omega) (by omega) (hk2) (hk3) hc_px0 hc_px1 hc_px2) pd19 ?_
  intro vq21 h22 S23 q21 zh22
  obtain ⟨rfl, rfl, rfl⟩ := q21
  refine Ow.Go.nr (S' := []) (st' := [(.int px1)]) ?_
  refine Ow.istoreN (pc' := 25) (Ls' := #[.val (.ref pa0), .val (.int 1), .val (.int px1), .val (.int b13)]) B e0_24 ?_
  refine Ow.Go.joinH (α := Int32) (pc1 := 82) (k1 := 4) (n1 := 128) (fun b => #[.val (.ref pa0), .val (.int 1), .val (.int px1), .val (.int b)]) (fun _ => []) ?_ ?_
  ·intro h25 Kh25 b24
   have zh25 := Kh25.1
   refine Ow.iinc (pc' := 85) (y := 2) (Ls' := #[.val (.ref pa0), .val (.int 2), .val (.int px1), .val (.int b24)]) B e0_82 ?_
   refine Ow.goto (pc' := 11) B e0_85 ?_
   refine Ow.iloadN (pc' := 12) B e0_11 ?_
   refine Ow.aloadN (pc' := 13) B e0_12 ?_
   refine Ow.Go.old (fun o26 => ?_)
   have f27 := f16.keep Kh25 Ow.nin0 Ow.nin0
   refine Ow.callVirtual (pc' := 16) (W := 1) (k' := 4) (n' := 128) (argsL := []) (rest := [(.int 2)]) (K := "java/lang/String") B e0_13 (w51 hw) (w52 hw) (w54 hw) (w54 hw) (w53 hw) (w8 hw) (w55 hw) (f27).1 (con_length_93 hw G GS (pa0 := pa0) (pa1 := pa1) (px0 := px0) (px1 := px1) (px2 := px2) (pk0 := pk0) o26 f27 (by omega) (by omega) hc_px0 hc_px1 hc_px2) pd14 ?_
   intro vq28 h29 S30 q28 zh29
   obtain ⟨rfl, rfl, rfl⟩ := q28
   refine Ow.Go.nr (S' := []) (st' := [(.int 3), (.int 2)]) ?_
   refine Ow.icmpF (pc' := 19) B e0_16 (by decide) ?_
   refine Ow.aloadN (pc' := 20) B e0_19 ?_
   refine Ow.iloadN (pc' := 21) B e0_20 ?_
   refine Ow.Go.old (fun o31 => ?_)
   refine Ow.callVirtual (pc' := 24) (W := 0) (k' := 4) (n' := 128) (argsL := [(.int 2)]) (rest := []) (K := "java/lang/String") B e0_21 (w61 hw) (w62 hw) (w64 hw) (w64 hw) (w63 hw) (w8 hw) (w65 hw) (f27).1 (con_charAt_111 hw G GS (pa0 := pa0) (pa1 := pa1) (px0 := px0) (px1 := px1) (px2 := px2) (pk0 := pk0) o31 f27 (by omega) (by omega) (hk4) (hk5) hc_px0 hc_px1 hc_px2) pd19 ?_
   intro vq32 h33 S34 q32 zh33
   obtain ⟨rfl, rfl, rfl⟩ := q32
   refine Ow.Go.nr (S' := []) (st' := [(.int px2)]) ?_
   refine Ow.istoreN (pc' := 25) (Ls' := #[.val (.ref pa0), .val (.int 2), .val (.int px2), .val (.int b24)]) B e0_24 ?_
   refine Ow.Go.joinH (α := Int32) (pc1 := 82) (k1 := 6) (n1 := 192) (fun b => #[.val (.ref pa0), .val (.int 2), .val (.int px2), .val (.int b)]) (fun _ => []) ?_ ?_
   ·intro h36 Kh36 b35
    have zh36 := Kh36.1
    refine Ow.iinc (pc' := 85) (y := 3) (Ls' := #[.val (.ref pa0), .val (.int 3), .val (.int px2), .val (.int b35)]) B e0_82 ?_
    refine Ow.goto (pc' := 11) B e0_85 ?_
    refine Ow.iloadN (pc' := 12) B e0_11 ?_
    refine Ow.aloadN (pc' := 13) B e0_12 ?_
    refine Ow.Go.old (fun o37 => ?_)
    have f38 := f27.keep Kh36 Ow.nin0 Ow.nin0
    refine Ow.callVirtual (pc' := 16) (W := 1) (k' := 6) (n' := 192) (argsL := []) (rest := [(.int 3)]) (K := "java/lang/String") B e0_13 (w51 hw) (w52 hw) (w54 hw) (w54 hw) (w53 hw) (w8 hw) (w55 hw) (f38).1 (con_length_93 hw G GS (pa0 := pa0) (pa1 := pa1) (px0 := px0) (px1 := px1) (px2 := px2) (pk0 := pk0) o37 f38 (by omega) (by omega) hc_px0 hc_px1 hc_px2) pd14 ?_
    intro vq39 h40 S41 q39 zh40
    obtain ⟨rfl, rfl, rfl⟩ := q39
    refine Ow.Go.nr (S' := []) (st' := [(.int 3), (.int 3)]) ?_
    refine Ow.icmpT (pc' := 88) B e0_16 (by decide) ?_
    refine Ow.iconst (pc' := 89) (x := 1) B e0_88 ?_
    exact Ow.retI (S' := []) (t := .boolean) B e0_89 (⟨rfl, ((((Keep.refl _ []).trans Kh14 (fun _ q => nomatch q)).trans Kh25 (fun _ q => nomatch q)).trans Kh36 (fun _ q => nomatch q)), rfl⟩)
   ·intro J42
    by_cases c43 : alP px2
    ·refine blk_al_b hw B (pb := b24) ⟨hk4, hk5⟩ c43 (fun b44 => ?_)
     exact Ow.Go.mono (k' := 6) (n' := 192) (by decide) (by decide) (by simp) (J42 _ (Keep.refl _ []) _)
    ·refine blk_no_b hw B (pb := b24) ⟨hk4, hk5⟩ c43 (fun b45 => ?_)
     refine Ow.ldcText (pc' := 73) (k' := 6) (n' := 192) (nn := 60) (vs := [(.int 33), (.int 35), (.int 36), (.int 37), (.int 38), (.int 39), (.int 42), (.int 43), (.int 45), (.int 46), (.int 94), (.int 95), (.int 96), (.int 124), (.int 126)]) (z := 15) B e0_71 (w83 hw) (by decide) ⟨by decide, by decide⟩ (by decide) (by decide) ?_
     intro h47 a46 t48 kt48 Kh47 Ea46 Ca46 Va46 At48 Na46
     have zh47 := Kh47.1
     have la46 : (a46 : Nat) < h47.size := Ea46.lt
     have lt48 : (t48 : Nat) < h47.size := At48.lt
     refine Ow.iloadN (pc' := 74) B e0_73 ?_
     refine Ow.Go.old (fun o49 => ?_)
     refine Ow.callVirtual (pc' := 77) (W := 0) (k' := 6) (n' := 192) (argsL := [(.int px2)]) (rest := []) (K := "java/lang/String") B e0_74 (w84 hw) (w85 hw) (w87 hw) (w87 hw) (w86 hw) (w8 hw) (w88 hw) Ea46 (con_indexOf_43 hw G GS (pa0 := a46) (pa1 := t48) (px0 := px2) (pk0 := kt48) o49 Ea46 Ca46 Va46 At48 (hk4) hc_px2) pd6 ?_
     intro vq50 h51 S52 q50 zh51
     rcases q50 with q50 | q50
     ·obtain ⟨y53, rfl, rfl, c54, c55, rfl⟩ := q50
      refine Ow.Go.nr (S' := []) (st' := [(.int y53)]) ?_
      refine Ow.ifF (pc' := 80) B e0_77 (tlt (c55)).2.1 ?_
      exact absurd (hk8) (fun q => q.elim (fun q => c43 q) (c54))
     ·obtain ⟨y56, rfl, rfl, c57, c58, rfl⟩ := q50
      refine Ow.Go.nr (S' := []) (st' := [(.int y56)]) ?_
      refine Ow.ifT (pc' := 82) B e0_77 (flt (c58)).2.1 ?_
      exact Ow.Go.mono (k' := 6) (n' := 192) (by decide) (by decide) (by simp) (J42 _ ((Keep.refl _ []).trans Kh47 (fun _ q => nomatch q)) _)
  ·intro J59
   by_cases c60 : alP px1
   ·refine blk_al_b hw B (pb := b13) ⟨hk2, hk3⟩ c60 (fun b61 => ?_)
    exact Ow.Go.mono (k' := 4) (n' := 128) (by decide) (by decide) (by simp) (J59 _ (Keep.refl _ []) _)
   ·refine blk_no_b hw B (pb := b13) ⟨hk2, hk3⟩ c60 (fun b62 => ?_)
    refine Ow.ldcText (pc' := 73) (k' := 4) (n' := 128) (nn := 60) (vs := [(.int 33), (.int 35), (.int 36), (.int 37), (.int 38), (.int 39), (.int 42), (.int 43), (.int 45), (.int 46), (.int 94), (.int 95), (.int 96), (.int 124), (.int 126)]) (z := 15) B e0_71 (w83 hw) (by decide) ⟨by decide, by decide⟩ (by decide) (by decide) ?_
    intro h64 a63 t65 kt65 Kh64 Ea63 Ca63 Va63 At65 Na63
    have zh64 := Kh64.1
    have la63 : (a63 : Nat) < h64.size := Ea63.lt
    have lt65 : (t65 : Nat) < h64.size := At65.lt
    refine Ow.iloadN (pc' := 74) B e0_73 ?_
    refine Ow.Go.old (fun o66 => ?_)
    refine Ow.callVirtual (pc' := 77) (W := 0) (k' := 4) (n' := 128) (argsL := [(.int px1)]) (rest := []) (K := "java/lang/String") B e0_74 (w84 hw) (w85 hw) (w87 hw) (w87 hw) (w86 hw) (w8 hw) (w88 hw) Ea63 (con_indexOf_43 hw G GS (pa0 := a63) (pa1 := t65) (px0 := px1) (pk0 := kt65) o66 Ea63 Ca63 Va63 At65 (hk2) hc_px1) pd6 ?_
    intro vq67 h68 S69 q67 zh68
    rcases q67 with q67 | q67
    ·obtain ⟨y70, rfl, rfl, c71, c72, rfl⟩ := q67
     refine Ow.Go.nr (S' := []) (st' := [(.int y70)]) ?_
     refine Ow.ifF (pc' := 80) B e0_77 (tlt (c72)).2.1 ?_
     exact absurd (hk7) (fun q => q.elim (fun q => c60 q) (c71))
    ·obtain ⟨y73, rfl, rfl, c74, c75, rfl⟩ := q67
     refine Ow.Go.nr (S' := []) (st' := [(.int y73)]) ?_
     refine Ow.ifT (pc' := 82) B e0_77 (flt (c75)).2.1 ?_
     exact Ow.Go.mono (k' := 4) (n' := 128) (by decide) (by decide) (by simp) (J59 _ ((Keep.refl _ []).trans Kh64 (fun _ q => nomatch q)) _)
 ·intro J76
  by_cases c77 : alP px0
  ·refine blk_al_u hw B (pb := 0) ⟨hk0, hk1⟩ c77 (fun b78 => ?_)
   exact Ow.Go.mono (k' := 2) (n' := 64) (by decide) (by decide) (by simp) (J76 _ (Keep.refl _ []) _)
  ·refine blk_no_u hw B (pb := 0) ⟨hk0, hk1⟩ c77 (fun b79 => ?_)
   refine Ow.ldcText (pc' := 73) (k' := 2) (n' := 64) (nn := 60) (vs := [(.int 33), (.int 35), (.int 36), (.int 37), (.int 38), (.int 39), (.int 42), (.int 43), (.int 45), (.int 46), (.int 94), (.int 95), (.int 96), (.int 124), (.int 126)]) (z := 15) B e0_71 (w83 hw) (by decide) ⟨by decide, by decide⟩ (by decide) (by decide) ?_
   intro h81 a80 t82 kt82 Kh81 Ea80 Ca80 Va80 At82 Na80
   have zh81 := Kh81.1
   have la80 : (a80 : Nat) < h81.size := Ea80.lt
   have lt82 : (t82 : Nat) < h81.size := At82.lt
   refine Ow.iloadN (pc' := 74) B e0_73 ?_
   refine Ow.Go.old (fun o83 => ?_)
   refine Ow.callVirtual (pc' := 77) (W := 0) (k' := 2) (n' := 64) (argsL := [(.int px0)]) (rest := []) (K := "java/lang/String") B e0_74 (w84 hw) (w85 hw) (w87 hw) (w87 hw) (w86 hw) (w8 hw) (w88 hw) Ea80 (con_indexOf_43 hw G GS (pa0 := a80) (pa1 := t82) (px0 := px0) (pk0 := kt82) o83 Ea80 Ca80 Va80 At82 (hk0) hc_px0) pd6 ?_
   intro vq84 h85 S86 q84 zh85
   rcases q84 with q84 | q84
   ·obtain ⟨y87, rfl, rfl, c88, c89, rfl⟩ := q84
    refine Ow.Go.nr (S' := []) (st' := [(.int y87)]) ?_
    refine Ow.ifF (pc' := 80) B e0_77 (tlt (c89)).2.1 ?_
    exact absurd (hk6) (fun q => q.elim (fun q => c77 q) (c88))
   ·obtain ⟨y90, rfl, rfl, c91, c92, rfl⟩ := q84
    refine Ow.Go.nr (S' := []) (st' := [(.int y90)]) ?_
    refine Ow.ifT (pc' := 82) B e0_77 (flt (c92)).2.1 ?_
    exact Ow.Go.mono (k' := 2) (n' := 64) (by decide) (by decide) (by simp) (J76 _ ((Keep.refl _ []).trans Kh81 (fun _ q => nomatch q)) _)
set_option maxRecDepth 65536 in
set_option maxHeartbeats 40000000 in
theorem seg132_10 (hw : Hw a0 Z) (G : Ow.Glo Z cz sf) (GS : GlS Z) {pa0 : Nat} {pa1 : Nat} {px0 : Int32} {px1 : Int32} {px2 : Int32} {pk0 : ClassId} {dl0 : Int32} {dl1 : Int32} {dl2 : Int32} {dl3 : Int32} {dl4 : Int32} {dl5 : Int32} {dl6 : Int32} {dl7 : Int32} {dl8 : Int32} {dl9 : Int32} {p : Program} {e : Env} {s : State} {m : MethodId} {args : Array Value} {below : List Frame} {meth : Method} {c : ClassFile.Code} (B : Ow.Bdy p meth c Z EL1 a0 code maxLocals ret x.name) {h0 : Heap} (O0 : Old Z n0 h0) (hf0 : Ow.Chs Z h0 pa0 pa1 pk0 [px0, px1, px2]) (hn0 : n0 ≤ pa0) (hn1 : n0 ≤ pa1) (hk0 : ¬ (px0 < (0 : Int32))) (hk1 : ¬ ((65535 : Int32) < px0)) (hk2 : ¬ (px1 < (0 : Int32))) (hk3 : ¬ ((65535 : Int32) < px1)) (hk4 : ¬ (px2 < (0 : Int32))) (hk5 : ¬ ((65535 : Int32) < px2)) (hk6 : tokP px0) (hk7 : tokP px1) (hk8 : tokP px2) (hc_px0 : nar .char px0 = px0) (hc_px1 : nar .char px1 = px1) (hc_px2 : nar .char px2 = px2) :
  Ow.Go p l e room_1 s m args below meth c Z EL1 n0 x.cls (fun v _ _ => v = some (.int 1)) [] h0 18 1984 132 #[.val (.int dl0), .val (.int dl1), .val (.int dl2), .val (.int dl3), .val (.int dl4), .val (.int dl5), .val (.int dl6), .val (.int dl7), .val (.int dl8), .val (.int dl9), .val (.ref pa0), .val (.int 1)] [] := by
 have z0 := Ow.old_le O0
 have lpa0 : (pa0 : Nat) < h0.size := hf0.lt
 have lpa1 : (pa1 : Nat) < h0.size := hf0.ltt
 refine Ow.aload (pc' := 134) B at_132 ?_
 refine Ow.Go.old (fun o1 => ?_)
 refine Ow.callStatic (pc' := 137) (W := 0) (k' := 24) (n' := 2176) (argsL := [(.ref pa0)]) (rest := []) B at_134 (w28 hw) (w29 hw) (w30 hw) (w31 hw) (con_isToken_113 hw G GS (pa0 := pa0) (pa1 := pa1) (px0 := px0) (px1 := px1) (px2 := px2) (pk0 := pk0) o1 hf0 (by omega) (by omega) (hk0) (hk1) (hk2) (hk3) (hk4) (hk5) (hk6) (hk7) (hk8) hc_px0 hc_px1 hc_px2) pd4 ?_
 intro vq2 h3 S4 q2 zh3
 obtain ⟨rfl, Kh3, rfl⟩ := q2
 refine Ow.Go.nr (S' := []) (st' := [(.int 1)]) ?_
 refine Ow.iload (pc' := 139) B at_137 ?_
 refine Ow.icmpF (pc' := 142) B at_139 (by decide) ?_
 refine Ow.iconst (pc' := 143) (x := 1) B at_142 ?_
 refine Ow.goto (pc' := 147) B at_143 ?_
 exact Ow.retI (S' := []) (t := .boolean) B at_147 (rfl)
set_option maxRecDepth 65536 in
set_option maxHeartbeats 40000000 in
theorem con_compress_114 (hw : Hw a0 Z) (G : Ow.Glo Z cz sf) (GS : GlS Z) {pa0 : Nat} {pa1 : Nat} {px0 : Int32} {px1 : Int32} {px2 : Int32} {px3 : Int32} {pk0 : ClassId} {pk1 : ClassId} {h0 : Heap} (O0 : Old Z n0 h0) (hf0 : Arv Z h0 pa0 pk0 .char (4 : Int32) [(.int px0), (.int px1), (.int px2), (.int px3)] (.int 0)) (hf1 : Arv Z h0 pa1 pk1 .byte (4 : Int32) [(.int 0), (.int 0), (.int 0), (.int 0)] (.int 0)) (hn0 : n0 ≤ pa0) (hn1 : n0 ≤ pa1) (hd0 : pa0 ≠ pa1) (hc_px0 : nar .char px0 = px0) (hc_px1 : nar .char px1 = px1) (hc_px2 : nar .char px2 = px2) (hc_px3 : nar .char px3 = px3) :
    Ow.Con l Z EL1 n0 my5 jdk_52_method_21_code 7 (Option.some Jvm.ClassFile.FieldType.int) [] ({ frames := 0, cells := 0, slots := 0, locals := 0 } : Room) #[(.ref pa0), (.int 0), (.ref pa1), (.int 0), (.int 4)] [pa1] h0 (fun v h S' => (v = some (.int 0) ∧ h = h0 ∧ (255 : Int32) < px0 ∧ S' = []) ∨ (v = some (.int 1) ∧ Keep h0 h [pa1] ∧ ¬ ((255 : Int32) < px0) ∧ (255 : Int32) < px1 ∧ Arv Z h pa1 pk1 .byte (4 : Int32) [(.int px0.toInt8.toInt32), (.int 0), (.int 0), (.int 0)] (.int 0) ∧ S' = []) ∨ (v = some (.int 2) ∧ Keep h0 h [pa1] ∧ ¬ ((255 : Int32) < px0) ∧ ¬ ((255 : Int32) < px1) ∧ (255 : Int32) < px2 ∧ Arv Z h pa1 pk1 .byte (4 : Int32) [(.int px0.toInt8.toInt32), (.int px1.toInt8.toInt32), (.int 0), (.int 0)] (.int 0) ∧ S' = []) ∨ (v = some (.int 3) ∧ Keep h0 h [pa1] ∧ ¬ ((255 : Int32) < px0) ∧ ¬ ((255 : Int32) < px1) ∧ ¬ ((255 : Int32) < px2) ∧ (255 : Int32) < px3 ∧ Arv Z h pa1 pk1 .byte (4 : Int32) [(.int px0.toInt8.toInt32), (.int px1.toInt8.toInt32), (.int px2.toInt8.toInt32), (.int 0)] (.int 0) ∧ S' = []) ∨ (v = some (.int 4) ∧ Keep h0 h [pa1] ∧ ¬ ((255 : Int32) < px0) ∧ ¬ ((255 : Int32) < px1) ∧ ¬ ((255 : Int32) < px2) ∧ ¬ ((255 : Int32) < px3) ∧ Arv Z h pa1 pk1 .byte (4 : Int32) [(.int px0.toInt8.toInt32), (.int px1.toInt8.toInt32), (.int px2.toInt8.toInt32), (.int px3.toInt8.toInt32)] (.int 0) ∧ S' = [])) := by
 refine Ow.Con.enter (Ls := #[.val (.ref pa0), .val (.int 0), .val (.ref pa1), .val (.int 0), .val (.int 4), .unset, .unset]) (plainFor_of_name pn3) O0 (hEW hw) (hSA hw) ?_
 intro p e s m below meth c B
 have z0 := Ow.old_le O0
 have lpa0 : (pa0 : Nat) < h0.size := hf0.lt
 have lpa1 : (pa1 : Nat) < h0.size := hf1.lt
 refine Ow.iconst (pc' := 1) (x := 0) B e6_0 ?_
 refine Ow.istore (pc' := 3) (Ls' := #[.val (.ref pa0), .val (.int 0), .val (.ref pa1), .val (.int 0), .val (.int 4), .val (.int 0), .unset]) B e6_1 ?_
 refine Ow.iload (pc' := 5) B e6_3 ?_
 refine Ow.iload (pc' := 7) B e6_5 ?_
 refine Ow.icmpF (pc' := 10) B e6_7 (by decide) ?_
 refine Ow.aloadN (pc' := 11) B e6_10 ?_
 refine Ow.iloadN (pc' := 12) B e6_11 ?_
 refine Ow.caload (pc' := 13) B e6_12 hf0 ⟨by decide, by decide⟩ rfl ?_
 refine Ow.istore (pc' := 15) (Ls' := #[.val (.ref pa0), .val (.int 0), .val (.ref pa1), .val (.int 0), .val (.int 4), .val (.int 0), .val (.int px0)]) B e6_13 ?_
 refine Ow.iload (pc' := 17) B e6_15 ?_
 refine Ow.sipush (pc' := 20) (x := 255) B e6_17 ?_
 by_cases c1 : (255 : Int32) < px0
 ·refine Ow.icmpF (pc' := 23) B e6_20 (tlt c1).2.2.2 ?_
  refine Ow.iload (pc' := 25) B e6_23 ?_
  exact Ow.retI (S' := []) (t := .int) B e6_25 (Or.inl (⟨rfl, rfl, c1, rfl⟩))
 ·refine Ow.icmpT (pc' := 26) B e6_20 (flt c1).2.2.2 ?_
  refine Ow.aloadN (pc' := 27) B e6_26 ?_
  refine Ow.iloadN (pc' := 28) B e6_27 ?_
  refine Ow.iload (pc' := 30) B e6_28 ?_
  refine Ow.i2b (pc' := 31) (z := px0.toInt8.toInt32) B e6_30 ?_
  refine Ow.bastore (pc' := 32) (i := 0) B e6_31 hf1 ⟨by decide, by decide⟩ (by simp) ?_
  intro h2 Kh2 V0h2
  have zh2 := Kh2.1
  have V3 : Arv Z h2 pa1 pk1 .byte (4 : Int32) [(.int px0.toInt8.toInt32), (.int 0), (.int 0), (.int 0)] (.int 0) := (by have e0 := V0h2; rw [show nar .byte px0.toInt8.toInt32 = px0.toInt8.toInt32 from Ow.nar_b _] at e0; exact e0)
  refine Ow.iinc (pc' := 35) (y := 1) (Ls' := #[.val (.ref pa0), .val (.int 1), .val (.ref pa1), .val (.int 0), .val (.int 4), .val (.int 0), .val (.int px0)]) B e6_32 ?_
  refine Ow.iinc (pc' := 38) (y := 1) (Ls' := #[.val (.ref pa0), .val (.int 1), .val (.ref pa1), .val (.int 1), .val (.int 4), .val (.int 0), .val (.int px0)]) B e6_35 ?_
  refine Ow.iinc (pc' := 41) (y := 1) (Ls' := #[.val (.ref pa0), .val (.int 1), .val (.ref pa1), .val (.int 1), .val (.int 4), .val (.int 1), .val (.int px0)]) B e6_38 ?_
  refine Ow.goto (pc' := 3) B e6_41 ?_
  refine Ow.iload (pc' := 5) B e6_3 ?_
  refine Ow.iload (pc' := 7) B e6_5 ?_
  refine Ow.icmpF (pc' := 10) B e6_7 (by decide) ?_
  refine Ow.aloadN (pc' := 11) B e6_10 ?_
  refine Ow.iloadN (pc' := 12) B e6_11 ?_
  have f4 := hf0.keep Kh2 (Ow.ninS (by omega) Ow.nin0)
  refine Ow.caload (pc' := 13) B e6_12 f4 ⟨by decide, by decide⟩ rfl ?_
  refine Ow.istore (pc' := 15) (Ls' := #[.val (.ref pa0), .val (.int 1), .val (.ref pa1), .val (.int 1), .val (.int 4), .val (.int 1), .val (.int px1)]) B e6_13 ?_
  refine Ow.iload (pc' := 17) B e6_15 ?_
  refine Ow.sipush (pc' := 20) (x := 255) B e6_17 ?_
  by_cases c5 : (255 : Int32) < px1
  ·refine Ow.icmpF (pc' := 23) B e6_20 (tlt c5).2.2.2 ?_
   refine Ow.iload (pc' := 25) B e6_23 ?_
   exact Ow.retI (S' := []) (t := .int) B e6_25 (Or.inr (Or.inl (⟨rfl, ((Keep.refl _ [pa1]).trans Kh2 (allS (Or.inl (by simp)) all0)), c1, c5, V3, rfl⟩)))
  ·refine Ow.icmpT (pc' := 26) B e6_20 (flt c5).2.2.2 ?_
   refine Ow.aloadN (pc' := 27) B e6_26 ?_
   refine Ow.iloadN (pc' := 28) B e6_27 ?_
   refine Ow.iload (pc' := 30) B e6_28 ?_
   refine Ow.i2b (pc' := 31) (z := px1.toInt8.toInt32) B e6_30 ?_
   refine Ow.bastore (pc' := 32) (i := 1) B e6_31 V3 ⟨by decide, by decide⟩ (by simp) ?_
   intro h6 Kh6 V0h6
   have zh6 := Kh6.1
   have V7 : Arv Z h6 pa1 pk1 .byte (4 : Int32) [(.int px0.toInt8.toInt32), (.int px1.toInt8.toInt32), (.int 0), (.int 0)] (.int 0) := (by have e0 := V0h6; rw [show nar .byte px1.toInt8.toInt32 = px1.toInt8.toInt32 from Ow.nar_b _] at e0; exact e0)
   refine Ow.iinc (pc' := 35) (y := 2) (Ls' := #[.val (.ref pa0), .val (.int 2), .val (.ref pa1), .val (.int 1), .val (.int 4), .val (.int 1), .val (.int px1)]) B e6_32 ?_
   refine Ow.iinc (pc' := 38) (y := 2) (Ls' := #[.val (.ref pa0), .val (.int 2), .val (.ref pa1), .val (.int 2), .val (.int 4), .val (.int 1), .val (.int px1)]) B e6_35 ?_
   refine Ow.iinc (pc' := 41) (y := 2) (Ls' := #[.val (.ref pa0), .val (.int 2), .val (.ref pa1), .val (.int 2), .val (.int 4), .val (.int 2), .val (.int px1)]) B e6_38 ?_
   refine Ow.goto (pc' := 3) B e6_41 ?_
   refine Ow.iload (pc' := 5) B e6_3 ?_
   refine Ow.iload (pc' := 7) B e6_5 ?_
   refine Ow.icmpF (pc' := 10) B e6_7 (by decide) ?_
   refine Ow.aloadN (pc' := 11) B e6_10 ?_
   refine Ow.iloadN (pc' := 12) B e6_11 ?_
   have f8 := f4.keep Kh6 (Ow.ninS (by omega) Ow.nin0)
   refine Ow.caload (pc' := 13) B e6_12 f8 ⟨by decide, by decide⟩ rfl ?_
   refine Ow.istore (pc' := 15) (Ls' := #[.val (.ref pa0), .val (.int 2), .val (.ref pa1), .val (.int 2), .val (.int 4), .val (.int 2), .val (.int px2)]) B e6_13 ?_
   refine Ow.iload (pc' := 17) B e6_15 ?_
   refine Ow.sipush (pc' := 20) (x := 255) B e6_17 ?_
   by_cases c9 : (255 : Int32) < px2
   ·refine Ow.icmpF (pc' := 23) B e6_20 (tlt c9).2.2.2 ?_
    refine Ow.iload (pc' := 25) B e6_23 ?_
    exact Ow.retI (S' := []) (t := .int) B e6_25 (Or.inr (Or.inr (Or.inl (⟨rfl, (((Keep.refl _ [pa1]).trans Kh2 (allS (Or.inl (by simp)) all0)).trans Kh6 (allS (Or.inl (by simp)) all0)), c1, c5, c9, V7, rfl⟩))))
   ·refine Ow.icmpT (pc' := 26) B e6_20 (flt c9).2.2.2 ?_
    refine Ow.aloadN (pc' := 27) B e6_26 ?_
    refine Ow.iloadN (pc' := 28) B e6_27 ?_
    refine Ow.iload (pc' := 30) B e6_28 ?_
    refine Ow.i2b (pc' := 31) (z := px2.toInt8.toInt32) B e6_30 ?_
    refine Ow.bastore (pc' := 32) (i := 2) B e6_31 V7 ⟨by decide, by decide⟩ (by simp) ?_
    intro h10 Kh10 V0h10
    have zh10 := Kh10.1
    have V11 : Arv Z h10 pa1 pk1 .byte (4 : Int32) [(.int px0.toInt8.toInt32), (.int px1.toInt8.toInt32), (.int px2.toInt8.toInt32), (.int 0)] (.int 0) := (by have e0 := V0h10; rw [show nar .byte px2.toInt8.toInt32 = px2.toInt8.toInt32 from Ow.nar_b _] at e0; exact e0)
    refine Ow.iinc (pc' := 35) (y := 3) (Ls' := #[.val (.ref pa0), .val (.int 3), .val (.ref pa1), .val (.int 2), .val (.int 4), .val (.int 2), .val (.int px2)]) B e6_32 ?_
    refine Ow.iinc (pc' := 38) (y := 3) (Ls' := #[.val (.ref pa0), .val (.int 3), .val (.ref pa1), .val (.int 3), .val (.int 4), .val (.int 2), .val (.int px2)]) B e6_35 ?_
    refine Ow.iinc (pc' := 41) (y := 3) (Ls' := #[.val (.ref pa0), .val (.int 3), .val (.ref pa1), .val (.int 3), .val (.int 4), .val (.int 3), .val (.int px2)]) B e6_38 ?_
    refine Ow.goto (pc' := 3) B e6_41 ?_
    refine Ow.iload (pc' := 5) B e6_3 ?_
    refine Ow.iload (pc' := 7) B e6_5 ?_
    refine Ow.icmpF (pc' := 10) B e6_7 (by decide) ?_
    refine Ow.aloadN (pc' := 11) B e6_10 ?_
    refine Ow.iloadN (pc' := 12) B e6_11 ?_
    have f12 := f8.keep Kh10 (Ow.ninS (by omega) Ow.nin0)
    refine Ow.caload (pc' := 13) B e6_12 f12 ⟨by decide, by decide⟩ rfl ?_
    refine Ow.istore (pc' := 15) (Ls' := #[.val (.ref pa0), .val (.int 3), .val (.ref pa1), .val (.int 3), .val (.int 4), .val (.int 3), .val (.int px3)]) B e6_13 ?_
    refine Ow.iload (pc' := 17) B e6_15 ?_
    refine Ow.sipush (pc' := 20) (x := 255) B e6_17 ?_
    by_cases c13 : (255 : Int32) < px3
    ·refine Ow.icmpF (pc' := 23) B e6_20 (tlt c13).2.2.2 ?_
     refine Ow.iload (pc' := 25) B e6_23 ?_
     exact Ow.retI (S' := []) (t := .int) B e6_25 (Or.inr (Or.inr (Or.inr (Or.inl (⟨rfl, ((((Keep.refl _ [pa1]).trans Kh2 (allS (Or.inl (by simp)) all0)).trans Kh6 (allS (Or.inl (by simp)) all0)).trans Kh10 (allS (Or.inl (by simp)) all0)), c1, c5, c9, c13, V11, rfl⟩)))))
    ·refine Ow.icmpT (pc' := 26) B e6_20 (flt c13).2.2.2 ?_
     refine Ow.aloadN (pc' := 27) B e6_26 ?_
     refine Ow.iloadN (pc' := 28) B e6_27 ?_
     refine Ow.iload (pc' := 30) B e6_28 ?_
     refine Ow.i2b (pc' := 31) (z := px3.toInt8.toInt32) B e6_30 ?_
     refine Ow.bastore (pc' := 32) (i := 3) B e6_31 V11 ⟨by decide, by decide⟩ (by simp) ?_
     intro h14 Kh14 V0h14
     have zh14 := Kh14.1
     have V15 : Arv Z h14 pa1 pk1 .byte (4 : Int32) [(.int px0.toInt8.toInt32), (.int px1.toInt8.toInt32), (.int px2.toInt8.toInt32), (.int px3.toInt8.toInt32)] (.int 0) := (by have e0 := V0h14; rw [show nar .byte px3.toInt8.toInt32 = px3.toInt8.toInt32 from Ow.nar_b _] at e0; exact e0)
     refine Ow.iinc (pc' := 35) (y := 4) (Ls' := #[.val (.ref pa0), .val (.int 4), .val (.ref pa1), .val (.int 3), .val (.int 4), .val (.int 3), .val (.int px3)]) B e6_32 ?_
     refine Ow.iinc (pc' := 38) (y := 4) (Ls' := #[.val (.ref pa0), .val (.int 4), .val (.ref pa1), .val (.int 4), .val (.int 4), .val (.int 3), .val (.int px3)]) B e6_35 ?_
     refine Ow.iinc (pc' := 41) (y := 4) (Ls' := #[.val (.ref pa0), .val (.int 4), .val (.ref pa1), .val (.int 4), .val (.int 4), .val (.int 4), .val (.int px3)]) B e6_38 ?_
     refine Ow.goto (pc' := 3) B e6_41 ?_
     refine Ow.iload (pc' := 5) B e6_3 ?_
     refine Ow.iload (pc' := 7) B e6_5 ?_
     refine Ow.icmpT (pc' := 44) B e6_7 (by decide) ?_
     refine Ow.iload (pc' := 46) B e6_44 ?_
     exact Ow.retI (S' := []) (t := .int) B e6_46 (Or.inr (Or.inr (Or.inr (Or.inr (⟨rfl, (((((Keep.refl _ [pa1]).trans Kh2 (allS (Or.inl (by simp)) all0)).trans Kh6 (allS (Or.inl (by simp)) all0)).trans Kh10 (allS (Or.inl (by simp)) all0)).trans Kh14 (allS (Or.inl (by simp)) all0)), c1, c5, c9, c13, V15, rfl⟩)))))
set_option maxRecDepth 65536 in
set_option maxHeartbeats 40000000 in
theorem con_newBytesLength_115 (hw : Hw a0 Z) (G : Ow.Glo Z cz sf) (GS : GlS Z) {h0 : Heap} (O0 : Old Z n0 h0) :
    Ow.Con l Z EL1 n0 my6 jdk_52_method_3_code 1 (Option.some Jvm.ClassFile.FieldType.int) [] ({ frames := 0, cells := 0, slots := 0, locals := 0 } : Room) #[(.int 4)] [] h0 (fun v h S' => (v = some (.int 8) ∧ h = h0 ∧ S' = [])) := by
 refine Ow.Con.enter (Ls := #[.val (.int 4)]) (plainFor_of_name pn3) O0 (hEW hw) (hSA hw) ?_
 intro p e s m below meth c B
 have z0 := Ow.old_le O0
 refine Ow.iloadN (pc' := 1) B e9_0 ?_
 refine Ow.ifT (pc' := 12) B e9_1 (by decide) ?_
 refine Ow.iloadN (pc' := 13) B e9_12 ?_
 refine Ow.ldcInt (pc' := 15) B e9_13 (w123 hw) ?_
 refine Ow.icmpT (pc' := 55) B e9_15 (by decide) ?_
 refine Ow.iloadN (pc' := 56) B e9_55 ?_
 refine Ow.iconst (pc' := 57) (x := 1) B e9_56 ?_
 refine Ow.ishl (pc' := 58) (z := 8) B e9_57 ?_
 exact Ow.retI (S' := []) (t := .int) B e9_58 (⟨rfl, rfl, rfl⟩)
set_option maxRecDepth 65536 in
set_option maxHeartbeats 40000000 in
theorem con_newBytesFor_116 (hw : Hw a0 Z) (G : Ow.Glo Z cz sf) (GS : GlS Z) {h0 : Heap} (O0 : Old Z n0 h0) :
    Ow.Con l Z EL1 n0 my7 jdk_52_method_2_code 1 (Option.some (Jvm.ClassFile.FieldType.array Jvm.ClassFile.FieldType.byte)) [] ({ frames := 1, cells := 1, slots := 8, locals := 12 } : Room) #[(.int 4)] [] h0 (fun v h S' => (∃ r0 : Nat, ∃ k0 : ClassId, v = some (.ref r0) ∧ Keep h0 h [] ∧ h0.size ≤ r0 ∧ Arv Z h r0 k0 .byte (8 : Int32) [(.int 0), (.int 0), (.int 0), (.int 0), (.int 0), (.int 0), (.int 0), (.int 0)] (.int 0) ∧ S' = [r0])) := by
 refine Ow.Con.enter (Ls := #[.val (.int 4)]) (plainFor_of_name pn3) O0 (hEW hw) (hSA hw) ?_
 intro p e s m below meth c B
 have z0 := Ow.old_le O0
 refine Ow.iloadN (pc' := 1) B e8_0 ?_
 refine Ow.Go.old (fun o1 => ?_)
 refine Ow.callStatic (pc' := 4) (W := 0) (k' := 0) (n' := 0) (argsL := [(.int 4)]) (rest := []) B e8_1 (w120 hw) (w121 hw) (w40 hw) (w122 hw) (con_newBytesLength_115 hw G GS o1) pd6 ?_
 intro vq2 h3 S4 q2 zh3
 obtain ⟨rfl, rfl, rfl⟩ := q2
 refine Ow.Go.nr (S' := []) (st' := [(.int 8)]) ?_
 refine Ow.newArr (pc' := 6) (k' := 1) (n' := 8) (cap := 8) B e8_4 (w21 hw) (by decide) (by decide) ?_
 intro h6 a5 ka5 ga5 ba5 Kh6 V0a5
 have zh6 := Kh6.1
 have la5 : (a5 : Nat) < h6.size := V0a5.lt
 have Va5 : Arv Z h6 a5 ka5 .byte (8 : Int32) [(.int 0), (.int 0), (.int 0), (.int 0), (.int 0), (.int 0), (.int 0), (.int 0)] (.int 0) := V0a5.pad (pad_rep [] (.int 0) 8)
 exact Ow.retA (S' := [a5]) (t := (.array .byte)) B e8_6 (⟨a5, ka5, rfl, ((Keep.refl _ []).trans Kh6 (fun _ q => nomatch q)), (by omega), Va5, rfl⟩)
set_option maxRecDepth 65536 in
set_option maxHeartbeats 40000000 in
theorem con_putChar_117 (hw : Hw a0 Z) (G : Ow.Glo Z cz sf) (GS : GlS Z) {pa0 : Nat} {px0 : Int32} {pk0 : ClassId} {h0 : Heap} (O0 : Old Z n0 h0) (hf0 : Arv Z h0 pa0 pk0 .byte (8 : Int32) [(.int 0), (.int 0), (.int 0), (.int 0), (.int 0), (.int 0), (.int 0), (.int 0)] (.int 0)) (hn0 : n0 ≤ pa0) (hc_px0 : nar .char px0 = px0) :
    Ow.Con l Z EL1 n0 my8 jdk_52_method_4_code 3 (Option.none : Option Jvm.ClassFile.FieldType) [] ({ frames := 0, cells := 0, slots := 0, locals := 0 } : Room) #[(.ref pa0), (.int 0), (.int px0)] [pa0] h0 (fun v h S' => (v = none ∧ Keep h0 h [pa0] ∧ Arv Z h pa0 pk0 .byte (8 : Int32) [(.int px0.toInt8.toInt32), (.int (px0 >>> ((8 : Int32) &&& 31)).toInt8.toInt32), (.int 0), (.int 0), (.int 0), (.int 0), (.int 0), (.int 0)] (.int 0) ∧ S' = [])) := by
 refine Ow.Con.enter (Ls := #[.val (.ref pa0), .val (.int 0), .val (.int px0)]) (plainFor_of_name pn3) O0 (hEW hw) (hSA hw) ?_
 intro p e s m below meth c B
 have z0 := Ow.old_le O0
 have lpa0 : (pa0 : Nat) < h0.size := hf0.lt
 refine Ow.getstatic (pc' := 3) B e10_0 (w127 hw) Via.refl GS.1 ?_
 refine Ow.ifT (pc' := 28) B e10_3 (by decide) ?_
 refine Ow.iloadN (pc' := 29) B e10_28 ?_
 refine Ow.iconst (pc' := 30) (x := 1) B e10_29 ?_
 refine Ow.ishl (pc' := 31) (z := 0) B e10_30 ?_
 refine Ow.istoreN (pc' := 32) (Ls' := #[.val (.ref pa0), .val (.int 0), .val (.int px0)]) B e10_31 ?_
 refine Ow.aloadN (pc' := 33) B e10_32 ?_
 refine Ow.iloadN (pc' := 34) B e10_33 ?_
 refine Ow.iinc (pc' := 37) (y := 1) (Ls' := #[.val (.ref pa0), .val (.int 1), .val (.int px0)]) B e10_34 ?_
 refine Ow.iloadN (pc' := 38) B e10_37 ?_
 refine Ow.getstatic (pc' := 41) B e10_38 (w128 hw) Via.refl GS.2.1 ?_
 refine Ow.ishr (pc' := 42) (z := px0) (hz := (Ow.shr0 _)) B e10_41 ?_
 refine Ow.i2b (pc' := 43) (z := px0.toInt8.toInt32) B e10_42 ?_
 refine Ow.bastore (pc' := 44) (i := 0) B e10_43 hf0 ⟨by decide, by decide⟩ (by simp) ?_
 intro h1 Kh1 V0h1
 have zh1 := Kh1.1
 have V2 : Arv Z h1 pa0 pk0 .byte (8 : Int32) [(.int px0.toInt8.toInt32), (.int 0), (.int 0), (.int 0), (.int 0), (.int 0), (.int 0), (.int 0)] (.int 0) := (by have e0 := V0h1; rw [show nar .byte px0.toInt8.toInt32 = px0.toInt8.toInt32 from Ow.nar_b _] at e0; exact e0)
 refine Ow.aloadN (pc' := 45) B e10_44 ?_
 refine Ow.iloadN (pc' := 46) B e10_45 ?_
 refine Ow.iloadN (pc' := 47) B e10_46 ?_
 refine Ow.getstatic (pc' := 50) B e10_47 (w129 hw) Via.refl GS.2.2 ?_
 refine Ow.ishr (pc' := 51) (z := (px0 >>> ((8 : Int32) &&& 31))) B e10_50 ?_
 refine Ow.i2b (pc' := 52) (z := (px0 >>> ((8 : Int32) &&& 31)).toInt8.toInt32) B e10_51 ?_
 refine Ow.bastore (pc' := 53) (i := 1) B e10_52 V2 ⟨by decide, by decide⟩ (by simp) ?_
 intro h3 Kh3 V0h3
 have zh3 := Kh3.1
 have V4 : Arv Z h3 pa0 pk0 .byte (8 : Int32) [(.int px0.toInt8.toInt32), (.int (px0 >>> ((8 : Int32) &&& 31)).toInt8.toInt32), (.int 0), (.int 0), (.int 0), (.int 0), (.int 0), (.int 0)] (.int 0) := (by have e0 := V0h3; rw [show nar .byte (px0 >>> ((8 : Int32) &&& 31)).toInt8.toInt32 = (px0 >>> ((8 : Int32) &&& 31)).toInt8.toInt32 from Ow.nar_b _] at e0; exact e0)
 exact Ow.retV (S' := []) B e10_53 (⟨rfl, (((Keep.refl _ [pa0]).trans Kh1 (allS (Or.inl (by simp)) all0)).trans Kh3 (allS (Or.inl (by simp)) all0)), V4, rfl⟩)
set_option maxRecDepth 65536 in
set_option maxHeartbeats 40000000 in
theorem con_putChar_118 (hw : Hw a0 Z) (G : Ow.Glo Z cz sf) (GS : GlS Z) {pa0 : Nat} {px0 : Int32} {px1 : Int32} {pk0 : ClassId} {h0 : Heap} (O0 : Old Z n0 h0) (hf0 : Arv Z h0 pa0 pk0 .byte (8 : Int32) [(.int px1.toInt8.toInt32), (.int (px1 >>> ((8 : Int32) &&& 31)).toInt8.toInt32), (.int 0), (.int 0), (.int 0), (.int 0), (.int 0), (.int 0)] (.int 0)) (hn0 : n0 ≤ pa0) (hc_px0 : nar .char px0 = px0) (hc_px1 : nar .char px1 = px1) :
    Ow.Con l Z EL1 n0 my8 jdk_52_method_4_code 3 (Option.none : Option Jvm.ClassFile.FieldType) [] ({ frames := 0, cells := 0, slots := 0, locals := 0 } : Room) #[(.ref pa0), (.int 1), (.int px0)] [pa0] h0 (fun v h S' => (v = none ∧ Keep h0 h [pa0] ∧ Arv Z h pa0 pk0 .byte (8 : Int32) [(.int px1.toInt8.toInt32), (.int (px1 >>> ((8 : Int32) &&& 31)).toInt8.toInt32), (.int px0.toInt8.toInt32), (.int (px0 >>> ((8 : Int32) &&& 31)).toInt8.toInt32), (.int 0), (.int 0), (.int 0), (.int 0)] (.int 0) ∧ S' = [])) := by
 refine Ow.Con.enter (Ls := #[.val (.ref pa0), .val (.int 1), .val (.int px0)]) (plainFor_of_name pn3) O0 (hEW hw) (hSA hw) ?_
 intro p e s m below meth c B
 have z0 := Ow.old_le O0
 have lpa0 : (pa0 : Nat) < h0.size := hf0.lt
 refine Ow.getstatic (pc' := 3) B e10_0 (w127 hw) Via.refl GS.1 ?_
 refine Ow.ifT (pc' := 28) B e10_3 (by decide) ?_
 refine Ow.iloadN (pc' := 29) B e10_28 ?_
 refine Ow.iconst (pc' := 30) (x := 1) B e10_29 ?_
 refine Ow.ishl (pc' := 31) (z := 2) B e10_30 ?_
 refine Ow.istoreN (pc' := 32) (Ls' := #[.val (.ref pa0), .val (.int 2), .val (.int px0)]) B e10_31 ?_
 refine Ow.aloadN (pc' := 33) B e10_32 ?_
 refine Ow.iloadN (pc' := 34) B e10_33 ?_
 refine Ow.iinc (pc' := 37) (y := 3) (Ls' := #[.val (.ref pa0), .val (.int 3), .val (.int px0)]) B e10_34 ?_
 refine Ow.iloadN (pc' := 38) B e10_37 ?_
 refine Ow.getstatic (pc' := 41) B e10_38 (w128 hw) Via.refl GS.2.1 ?_
 refine Ow.ishr (pc' := 42) (z := px0) (hz := (Ow.shr0 _)) B e10_41 ?_
 refine Ow.i2b (pc' := 43) (z := px0.toInt8.toInt32) B e10_42 ?_
 refine Ow.bastore (pc' := 44) (i := 2) B e10_43 hf0 ⟨by decide, by decide⟩ (by simp) ?_
 intro h1 Kh1 V0h1
 have zh1 := Kh1.1
 have V2 : Arv Z h1 pa0 pk0 .byte (8 : Int32) [(.int px1.toInt8.toInt32), (.int (px1 >>> ((8 : Int32) &&& 31)).toInt8.toInt32), (.int px0.toInt8.toInt32), (.int 0), (.int 0), (.int 0), (.int 0), (.int 0)] (.int 0) := (by have e0 := V0h1; rw [show nar .byte px0.toInt8.toInt32 = px0.toInt8.toInt32 from Ow.nar_b _] at e0; exact e0)
 refine Ow.aloadN (pc' := 45) B e10_44 ?_
 refine Ow.iloadN (pc' := 46) B e10_45 ?_
 refine Ow.iloadN (pc' := 47) B e10_46 ?_
 refine Ow.getstatic (pc' := 50) B e10_47 (w129 hw) Via.refl GS.2.2 ?_
 refine Ow.ishr (pc' := 51) (z := (px0 >>> ((8 : Int32) &&& 31))) B e10_50 ?_
 refine Ow.i2b (pc' := 52) (z := (px0 >>> ((8 : Int32) &&& 31)).toInt8.toInt32) B e10_51 ?_
 refine Ow.bastore (pc' := 53) (i := 3) B e10_52 V2 ⟨by decide, by decide⟩ (by simp) ?_
 intro h3 Kh3 V0h3
 have zh3 := Kh3.1
 have V4 : Arv Z h3 pa0 pk0 .byte (8 : Int32) [(.int px1.toInt8.toInt32), (.int (px1 >>> ((8 : Int32) &&& 31)).toInt8.toInt32), (.int px0.toInt8.toInt32), (.int (px0 >>> ((8 : Int32) &&& 31)).toInt8.toInt32), (.int 0), (.int 0), (.int 0), (.int 0)] (.int 0) := (by have e0 := V0h3; rw [show nar .byte (px0 >>> ((8 : Int32) &&& 31)).toInt8.toInt32 = (px0 >>> ((8 : Int32) &&& 31)).toInt8.toInt32 from Ow.nar_b _] at e0; exact e0)
 exact Ow.retV (S' := []) B e10_53 (⟨rfl, (((Keep.refl _ [pa0]).trans Kh1 (allS (Or.inl (by simp)) all0)).trans Kh3 (allS (Or.inl (by simp)) all0)), V4, rfl⟩)
set_option maxRecDepth 65536 in
set_option maxHeartbeats 40000000 in
theorem con_putChar_119 (hw : Hw a0 Z) (G : Ow.Glo Z cz sf) (GS : GlS Z) {pa0 : Nat} {px0 : Int32} {px1 : Int32} {px2 : Int32} {pk0 : ClassId} {h0 : Heap} (O0 : Old Z n0 h0) (hf0 : Arv Z h0 pa0 pk0 .byte (8 : Int32) [(.int px1.toInt8.toInt32), (.int (px1 >>> ((8 : Int32) &&& 31)).toInt8.toInt32), (.int px2.toInt8.toInt32), (.int (px2 >>> ((8 : Int32) &&& 31)).toInt8.toInt32), (.int 0), (.int 0), (.int 0), (.int 0)] (.int 0)) (hn0 : n0 ≤ pa0) (hc_px0 : nar .char px0 = px0) (hc_px1 : nar .char px1 = px1) (hc_px2 : nar .char px2 = px2) :
    Ow.Con l Z EL1 n0 my8 jdk_52_method_4_code 3 (Option.none : Option Jvm.ClassFile.FieldType) [] ({ frames := 0, cells := 0, slots := 0, locals := 0 } : Room) #[(.ref pa0), (.int 2), (.int px0)] [pa0] h0 (fun v h S' => (v = none ∧ Keep h0 h [pa0] ∧ Arv Z h pa0 pk0 .byte (8 : Int32) [(.int px1.toInt8.toInt32), (.int (px1 >>> ((8 : Int32) &&& 31)).toInt8.toInt32), (.int px2.toInt8.toInt32), (.int (px2 >>> ((8 : Int32) &&& 31)).toInt8.toInt32), (.int px0.toInt8.toInt32), (.int (px0 >>> ((8 : Int32) &&& 31)).toInt8.toInt32), (.int 0), (.int 0)] (.int 0) ∧ S' = [])) := by
 refine Ow.Con.enter (Ls := #[.val (.ref pa0), .val (.int 2), .val (.int px0)]) (plainFor_of_name pn3) O0 (hEW hw) (hSA hw) ?_
 intro p e s m below meth c B
 have z0 := Ow.old_le O0
 have lpa0 : (pa0 : Nat) < h0.size := hf0.lt
 refine Ow.getstatic (pc' := 3) B e10_0 (w127 hw) Via.refl GS.1 ?_
 refine Ow.ifT (pc' := 28) B e10_3 (by decide) ?_
 refine Ow.iloadN (pc' := 29) B e10_28 ?_
 refine Ow.iconst (pc' := 30) (x := 1) B e10_29 ?_
 refine Ow.ishl (pc' := 31) (z := 4) B e10_30 ?_
 refine Ow.istoreN (pc' := 32) (Ls' := #[.val (.ref pa0), .val (.int 4), .val (.int px0)]) B e10_31 ?_
 refine Ow.aloadN (pc' := 33) B e10_32 ?_
 refine Ow.iloadN (pc' := 34) B e10_33 ?_
 refine Ow.iinc (pc' := 37) (y := 5) (Ls' := #[.val (.ref pa0), .val (.int 5), .val (.int px0)]) B e10_34 ?_
 refine Ow.iloadN (pc' := 38) B e10_37 ?_
 refine Ow.getstatic (pc' := 41) B e10_38 (w128 hw) Via.refl GS.2.1 ?_
 refine Ow.ishr (pc' := 42) (z := px0) (hz := (Ow.shr0 _)) B e10_41 ?_
 refine Ow.i2b (pc' := 43) (z := px0.toInt8.toInt32) B e10_42 ?_
 refine Ow.bastore (pc' := 44) (i := 4) B e10_43 hf0 ⟨by decide, by decide⟩ (by simp) ?_
 intro h1 Kh1 V0h1
 have zh1 := Kh1.1
 have V2 : Arv Z h1 pa0 pk0 .byte (8 : Int32) [(.int px1.toInt8.toInt32), (.int (px1 >>> ((8 : Int32) &&& 31)).toInt8.toInt32), (.int px2.toInt8.toInt32), (.int (px2 >>> ((8 : Int32) &&& 31)).toInt8.toInt32), (.int px0.toInt8.toInt32), (.int 0), (.int 0), (.int 0)] (.int 0) := (by have e0 := V0h1; rw [show nar .byte px0.toInt8.toInt32 = px0.toInt8.toInt32 from Ow.nar_b _] at e0; exact e0)
 refine Ow.aloadN (pc' := 45) B e10_44 ?_
 refine Ow.iloadN (pc' := 46) B e10_45 ?_
 refine Ow.iloadN (pc' := 47) B e10_46 ?_
 refine Ow.getstatic (pc' := 50) B e10_47 (w129 hw) Via.refl GS.2.2 ?_
 refine Ow.ishr (pc' := 51) (z := (px0 >>> ((8 : Int32) &&& 31))) B e10_50 ?_
 refine Ow.i2b (pc' := 52) (z := (px0 >>> ((8 : Int32) &&& 31)).toInt8.toInt32) B e10_51 ?_
 refine Ow.bastore (pc' := 53) (i := 5) B e10_52 V2 ⟨by decide, by decide⟩ (by simp) ?_
 intro h3 Kh3 V0h3
 have zh3 := Kh3.1
 have V4 : Arv Z h3 pa0 pk0 .byte (8 : Int32) [(.int px1.toInt8.toInt32), (.int (px1 >>> ((8 : Int32) &&& 31)).toInt8.toInt32), (.int px2.toInt8.toInt32), (.int (px2 >>> ((8 : Int32) &&& 31)).toInt8.toInt32), (.int px0.toInt8.toInt32), (.int (px0 >>> ((8 : Int32) &&& 31)).toInt8.toInt32), (.int 0), (.int 0)] (.int 0) := (by have e0 := V0h3; rw [show nar .byte (px0 >>> ((8 : Int32) &&& 31)).toInt8.toInt32 = (px0 >>> ((8 : Int32) &&& 31)).toInt8.toInt32 from Ow.nar_b _] at e0; exact e0)
 exact Ow.retV (S' := []) B e10_53 (⟨rfl, (((Keep.refl _ [pa0]).trans Kh1 (allS (Or.inl (by simp)) all0)).trans Kh3 (allS (Or.inl (by simp)) all0)), V4, rfl⟩)
set_option maxRecDepth 65536 in
set_option maxHeartbeats 40000000 in
theorem con_putChar_120 (hw : Hw a0 Z) (G : Ow.Glo Z cz sf) (GS : GlS Z) {pa0 : Nat} {px0 : Int32} {px1 : Int32} {px2 : Int32} {px3 : Int32} {pk0 : ClassId} {h0 : Heap} (O0 : Old Z n0 h0) (hf0 : Arv Z h0 pa0 pk0 .byte (8 : Int32) [(.int px1.toInt8.toInt32), (.int (px1 >>> ((8 : Int32) &&& 31)).toInt8.toInt32), (.int px2.toInt8.toInt32), (.int (px2 >>> ((8 : Int32) &&& 31)).toInt8.toInt32), (.int px3.toInt8.toInt32), (.int (px3 >>> ((8 : Int32) &&& 31)).toInt8.toInt32), (.int 0), (.int 0)] (.int 0)) (hn0 : n0 ≤ pa0) (hc_px0 : nar .char px0 = px0) (hc_px1 : nar .char px1 = px1) (hc_px2 : nar .char px2 = px2) (hc_px3 : nar .char px3 = px3) :
    Ow.Con l Z EL1 n0 my8 jdk_52_method_4_code 3 (Option.none : Option Jvm.ClassFile.FieldType) [] ({ frames := 0, cells := 0, slots := 0, locals := 0 } : Room) #[(.ref pa0), (.int 3), (.int px0)] [pa0] h0 (fun v h S' => (v = none ∧ Keep h0 h [pa0] ∧ Arv Z h pa0 pk0 .byte (8 : Int32) [(.int px1.toInt8.toInt32), (.int (px1 >>> ((8 : Int32) &&& 31)).toInt8.toInt32), (.int px2.toInt8.toInt32), (.int (px2 >>> ((8 : Int32) &&& 31)).toInt8.toInt32), (.int px3.toInt8.toInt32), (.int (px3 >>> ((8 : Int32) &&& 31)).toInt8.toInt32), (.int px0.toInt8.toInt32), (.int (px0 >>> ((8 : Int32) &&& 31)).toInt8.toInt32)] (.int 0) ∧ S' = [])) := by
 refine Ow.Con.enter (Ls := #[.val (.ref pa0), .val (.int 3), .val (.int px0)]) (plainFor_of_name pn3) O0 (hEW hw) (hSA hw) ?_
 intro p e s m below meth c B
 have z0 := Ow.old_le O0
 have lpa0 : (pa0 : Nat) < h0.size := hf0.lt
 refine Ow.getstatic (pc' := 3) B e10_0 (w127 hw) Via.refl GS.1 ?_
 refine Ow.ifT (pc' := 28) B e10_3 (by decide) ?_
 refine Ow.iloadN (pc' := 29) B e10_28 ?_
 refine Ow.iconst (pc' := 30) (x := 1) B e10_29 ?_
 refine Ow.ishl (pc' := 31) (z := 6) B e10_30 ?_
 refine Ow.istoreN (pc' := 32) (Ls' := #[.val (.ref pa0), .val (.int 6), .val (.int px0)]) B e10_31 ?_
 refine Ow.aloadN (pc' := 33) B e10_32 ?_
 refine Ow.iloadN (pc' := 34) B e10_33 ?_
 refine Ow.iinc (pc' := 37) (y := 7) (Ls' := #[.val (.ref pa0), .val (.int 7), .val (.int px0)]) B e10_34 ?_
 refine Ow.iloadN (pc' := 38) B e10_37 ?_
 refine Ow.getstatic (pc' := 41) B e10_38 (w128 hw) Via.refl GS.2.1 ?_
 refine Ow.ishr (pc' := 42) (z := px0) (hz := (Ow.shr0 _)) B e10_41 ?_
 refine Ow.i2b (pc' := 43) (z := px0.toInt8.toInt32) B e10_42 ?_
 refine Ow.bastore (pc' := 44) (i := 6) B e10_43 hf0 ⟨by decide, by decide⟩ (by simp) ?_
 intro h1 Kh1 V0h1
 have zh1 := Kh1.1
 have V2 : Arv Z h1 pa0 pk0 .byte (8 : Int32) [(.int px1.toInt8.toInt32), (.int (px1 >>> ((8 : Int32) &&& 31)).toInt8.toInt32), (.int px2.toInt8.toInt32), (.int (px2 >>> ((8 : Int32) &&& 31)).toInt8.toInt32), (.int px3.toInt8.toInt32), (.int (px3 >>> ((8 : Int32) &&& 31)).toInt8.toInt32), (.int px0.toInt8.toInt32), (.int 0)] (.int 0) := (by have e0 := V0h1; rw [show nar .byte px0.toInt8.toInt32 = px0.toInt8.toInt32 from Ow.nar_b _] at e0; exact e0)
 refine Ow.aloadN (pc' := 45) B e10_44 ?_
 refine Ow.iloadN (pc' := 46) B e10_45 ?_
 refine Ow.iloadN (pc' := 47) B e10_46 ?_
 refine Ow.getstatic (pc' := 50) B e10_47 (w129 hw) Via.refl GS.2.2 ?_
 refine Ow.ishr (pc' := 51) (z := (px0 >>> ((8 : Int32) &&& 31))) B e10_50 ?_
 refine Ow.i2b (pc' := 52) (z := (px0 >>> ((8 : Int32) &&& 31)).toInt8.toInt32) B e10_51 ?_
 refine Ow.bastore (pc' := 53) (i := 7) B e10_52 V2 ⟨by decide, by decide⟩ (by simp) ?_
 intro h3 Kh3 V0h3
 have zh3 := Kh3.1
 have V4 : Arv Z h3 pa0 pk0 .byte (8 : Int32) [(.int px1.toInt8.toInt32), (.int (px1 >>> ((8 : Int32) &&& 31)).toInt8.toInt32), (.int px2.toInt8.toInt32), (.int (px2 >>> ((8 : Int32) &&& 31)).toInt8.toInt32), (.int px3.toInt8.toInt32), (.int (px3 >>> ((8 : Int32) &&& 31)).toInt8.toInt32), (.int px0.toInt8.toInt32), (.int (px0 >>> ((8 : Int32) &&& 31)).toInt8.toInt32)] (.int 0) := (by have e0 := V0h3; rw [show nar .byte (px0 >>> ((8 : Int32) &&& 31)).toInt8.toInt32 = (px0 >>> ((8 : Int32) &&& 31)).toInt8.toInt32 from Ow.nar_b _] at e0; exact e0)
 exact Ow.retV (S' := []) B e10_53 (⟨rfl, (((Keep.refl _ [pa0]).trans Kh1 (allS (Or.inl (by simp)) all0)).trans Kh3 (allS (Or.inl (by simp)) all0)), V4, rfl⟩)
set_option maxRecDepth 65536 in
set_option maxHeartbeats 40000000 in
theorem con_toBytes_121 (hw : Hw a0 Z) (G : Ow.Glo Z cz sf) (GS : GlS Z) {pa0 : Nat} {px0 : Int32} {px1 : Int32} {px2 : Int32} {px3 : Int32} {pk0 : ClassId} {h0 : Heap} (O0 : Old Z n0 h0) (hf0 : Arv Z h0 pa0 pk0 .char (4 : Int32) [(.int px0), (.int px1), (.int px2), (.int px3)] (.int 0)) (hn0 : n0 ≤ pa0) (hc_px0 : nar .char px0 = px0) (hc_px1 : nar .char px1 = px1) (hc_px2 : nar .char px2 = px2) (hc_px3 : nar .char px3 = px3) :
    Ow.Con l Z EL1 n0 my9 jdk_52_method_14_code 5 (Option.some (Jvm.ClassFile.FieldType.array Jvm.ClassFile.FieldType.byte)) [] ({ frames := 2, cells := 1, slots := 8, locals := 24 } : Room) #[(.ref pa0), (.int 0), (.int 4)] [] h0 (fun v h S' => (∃ r0 : Nat, ∃ k0 : ClassId, v = some (.ref r0) ∧ Keep h0 h [] ∧ h0.size ≤ r0 ∧ Arv Z h r0 k0 .byte (8 : Int32) [(.int px0.toInt8.toInt32), (.int (px0 >>> ((8 : Int32) &&& 31)).toInt8.toInt32), (.int px1.toInt8.toInt32), (.int (px1 >>> ((8 : Int32) &&& 31)).toInt8.toInt32), (.int px2.toInt8.toInt32), (.int (px2 >>> ((8 : Int32) &&& 31)).toInt8.toInt32), (.int px3.toInt8.toInt32), (.int (px3 >>> ((8 : Int32) &&& 31)).toInt8.toInt32)] (.int 0) ∧ S' = [r0])) := by
 refine Ow.Con.enter (Ls := #[.val (.ref pa0), .val (.int 0), .val (.int 4), .unset, .unset]) (plainFor_of_name pn3) O0 (hEW hw) (hSA hw) ?_
 intro p e s m below meth c B
 have z0 := Ow.old_le O0
 have lpa0 : (pa0 : Nat) < h0.size := hf0.lt
 refine Ow.iloadN (pc' := 1) B e7_0 ?_
 refine Ow.Go.old (fun o1 => ?_)
 refine Ow.callStatic (pc' := 4) (W := 0) (k' := 1) (n' := 8) (argsL := [(.int 4)]) (rest := []) B e7_1 (w117 hw) (w118 hw) (w40 hw) (w119 hw) (con_newBytesFor_116 hw G GS o1) pd7 ?_
 intro vq2 h3 S4 q2 zh3
 obtain ⟨r5, k6, rfl, Kh3, br5, f7, rfl⟩ := q2
 have lr5 : (r5 : Nat) < h3.size := f7.lt
 refine Ow.Go.norm (S' := [r5]) (st' := [(.ref r5)]) (fun _ q => q) rfl ?_
 refine Ow.astoreN (pc' := 5) (Ls' := #[.val (.ref pa0), .val (.int 0), .val (.int 4), .val (.ref r5), .unset]) B e7_4 ?_
 refine Ow.iconst (pc' := 6) (x := 0) B e7_5 ?_
 refine Ow.istore (pc' := 8) (Ls' := #[.val (.ref pa0), .val (.int 0), .val (.int 4), .val (.ref r5), .val (.int 0)]) B e7_6 ?_
 refine Ow.iload (pc' := 10) B e7_8 ?_
 refine Ow.iloadN (pc' := 11) B e7_10 ?_
 refine Ow.icmpF (pc' := 14) B e7_11 (by decide) ?_
 refine Ow.aloadN (pc' := 15) B e7_14 ?_
 refine Ow.iload (pc' := 17) B e7_15 ?_
 refine Ow.aloadN (pc' := 18) B e7_17 ?_
 refine Ow.iloadN (pc' := 19) B e7_18 ?_
 have f8 := hf0.keep Kh3 Ow.nin0
 refine Ow.caload (pc' := 20) B e7_19 f8 ⟨by decide, by decide⟩ rfl ?_
 refine Ow.Go.old (fun o9 => ?_)
 refine Ow.callStatic (pc' := 23) (W := 0) (k' := 1) (n' := 8) (argsL := [(.ref r5), (.int 0), (.int px0)]) (rest := []) B e7_20 (w124 hw) (w125 hw) (w40 hw) (w126 hw) (con_putChar_117 hw G GS (pa0 := r5) (px0 := px0) (pk0 := k6) o9 f7 (by omega) hc_px0) pd8 ?_
 intro vq10 h11 S12 q10 zh11
 obtain ⟨rfl, Kh11, f13, rfl⟩ := q10
 refine Ow.Go.nr (S' := [r5]) (st' := []) ?_
 refine Ow.iinc (pc' := 26) (y := 1) (Ls' := #[.val (.ref pa0), .val (.int 1), .val (.int 4), .val (.ref r5), .val (.int 0)]) B e7_23 ?_
 refine Ow.iinc (pc' := 29) (y := 1) (Ls' := #[.val (.ref pa0), .val (.int 1), .val (.int 4), .val (.ref r5), .val (.int 1)]) B e7_26 ?_
 refine Ow.goto (pc' := 8) B e7_29 ?_
 refine Ow.iload (pc' := 10) B e7_8 ?_
 refine Ow.iloadN (pc' := 11) B e7_10 ?_
 refine Ow.icmpF (pc' := 14) B e7_11 (by decide) ?_
 refine Ow.aloadN (pc' := 15) B e7_14 ?_
 refine Ow.iload (pc' := 17) B e7_15 ?_
 refine Ow.aloadN (pc' := 18) B e7_17 ?_
 refine Ow.iloadN (pc' := 19) B e7_18 ?_
 have f14 := f8.keep Kh11 (Ow.ninS (by omega) Ow.nin0)
 refine Ow.caload (pc' := 20) B e7_19 f14 ⟨by decide, by decide⟩ rfl ?_
 refine Ow.Go.old (fun o15 => ?_)
 refine Ow.callStatic (pc' := 23) (W := 0) (k' := 1) (n' := 8) (argsL := [(.ref r5), (.int 1), (.int px1)]) (rest := []) B e7_20 (w124 hw) (w125 hw) (w40 hw) (w126 hw) (con_putChar_118 hw G GS (pa0 := r5) (px0 := px1) (px1 := px0) (pk0 := k6) o15 f13 (by omega) hc_px1 hc_px0) pd8 ?_
 intro vq16 h17 S18 q16 zh17
 obtain ⟨rfl, Kh17, f19, rfl⟩ := q16
 refine Ow.Go.nr (S' := [r5]) (st' := []) ?_
 refine Ow.iinc (pc' := 26) (y := 2) (Ls' := #[.val (.ref pa0), .val (.int 2), .val (.int 4), .val (.ref r5), .val (.int 1)]) B e7_23 ?_
 refine Ow.iinc (pc' := 29) (y := 2) (Ls' := #[.val (.ref pa0), .val (.int 2), .val (.int 4), .val (.ref r5), .val (.int 2)]) B e7_26 ?_
 refine Ow.goto (pc' := 8) B e7_29 ?_
 refine Ow.iload (pc' := 10) B e7_8 ?_
 refine Ow.iloadN (pc' := 11) B e7_10 ?_
 refine Ow.icmpF (pc' := 14) B e7_11 (by decide) ?_
 refine Ow.aloadN (pc' := 15) B e7_14 ?_
 refine Ow.iload (pc' := 17) B e7_15 ?_
 refine Ow.aloadN (pc' := 18) B e7_17 ?_
 refine Ow.iloadN (pc' := 19) B e7_18 ?_
 have f20 := f14.keep Kh17 (Ow.ninS (by omega) Ow.nin0)
 refine Ow.caload (pc' := 20) B e7_19 f20 ⟨by decide, by decide⟩ rfl ?_
 refine Ow.Go.old (fun o21 => ?_)
 refine Ow.callStatic (pc' := 23) (W := 0) (k' := 1) (n' := 8) (argsL := [(.ref r5), (.int 2), (.int px2)]) (rest := []) B e7_20 (w124 hw) (w125 hw) (w40 hw) (w126 hw) (con_putChar_119 hw G GS (pa0 := r5) (px0 := px2) (px1 := px0) (px2 := px1) (pk0 := k6) o21 f19 (by omega) hc_px2 hc_px0 hc_px1) pd8 ?_
 intro vq22 h23 S24 q22 zh23
 obtain ⟨rfl, Kh23, f25, rfl⟩ := q22
 refine Ow.Go.nr (S' := [r5]) (st' := []) ?_
 refine Ow.iinc (pc' := 26) (y := 3) (Ls' := #[.val (.ref pa0), .val (.int 3), .val (.int 4), .val (.ref r5), .val (.int 2)]) B e7_23 ?_
 refine Ow.iinc (pc' := 29) (y := 3) (Ls' := #[.val (.ref pa0), .val (.int 3), .val (.int 4), .val (.ref r5), .val (.int 3)]) B e7_26 ?_
 refine Ow.goto (pc' := 8) B e7_29 ?_
 refine Ow.iload (pc' := 10) B e7_8 ?_
 refine Ow.iloadN (pc' := 11) B e7_10 ?_
 refine Ow.icmpF (pc' := 14) B e7_11 (by decide) ?_
 refine Ow.aloadN (pc' := 15) B e7_14 ?_
 refine Ow.iload (pc' := 17) B e7_15 ?_
 refine Ow.aloadN (pc' := 18) B e7_17 ?_
 refine Ow.iloadN (pc' := 19) B e7_18 ?_
 have f26 := f20.keep Kh23 (Ow.ninS (by omega) Ow.nin0)
 refine Ow.caload (pc' := 20) B e7_19 f26 ⟨by decide, by decide⟩ rfl ?_
 refine Ow.Go.old (fun o27 => ?_)
 refine Ow.callStatic (pc' := 23) (W := 0) (k' := 1) (n' := 8) (argsL := [(.ref r5), (.int 3), (.int px3)]) (rest := []) B e7_20 (w124 hw) (w125 hw) (w40 hw) (w126 hw) (con_putChar_120 hw G GS (pa0 := r5) (px0 := px3) (px1 := px0) (px2 := px1) (px3 := px2) (pk0 := k6) o27 f25 (by omega) hc_px3 hc_px0 hc_px1 hc_px2) pd8 ?_
 intro vq28 h29 S30 q28 zh29
 obtain ⟨rfl, Kh29, f31, rfl⟩ := q28
 refine Ow.Go.nr (S' := [r5]) (st' := []) ?_
 refine Ow.iinc (pc' := 26) (y := 4) (Ls' := #[.val (.ref pa0), .val (.int 4), .val (.int 4), .val (.ref r5), .val (.int 3)]) B e7_23 ?_
 refine Ow.iinc (pc' := 29) (y := 4) (Ls' := #[.val (.ref pa0), .val (.int 4), .val (.int 4), .val (.ref r5), .val (.int 4)]) B e7_26 ?_
 refine Ow.goto (pc' := 8) B e7_29 ?_
 refine Ow.iload (pc' := 10) B e7_8 ?_
 refine Ow.iloadN (pc' := 11) B e7_10 ?_
 refine Ow.icmpT (pc' := 32) B e7_11 (by decide) ?_
 refine Ow.aloadN (pc' := 33) B e7_32 ?_
 exact Ow.retA (S' := [r5]) (t := (.array .byte)) B e7_33 (⟨r5, k6, rfl, ((((((Keep.refl _ []).trans Kh3 (fun _ q => nomatch q)).trans Kh11 (allS (Or.inr (by omega)) all0)).trans Kh17 (allS (Or.inr (by omega)) all0)).trans Kh23 (allS (Or.inr (by omega)) all0)).trans Kh29 (allS (Or.inr (by omega)) all0)), (by omega), f31, rfl⟩)
set_option maxRecDepth 65536 in
set_option maxHeartbeats 40000000 in
theorem con_getChar_122 (hw : Hw a0 Z) (G : Ow.Glo Z cz sf) (GS : GlS Z) {pa0 : Nat} {px0 : Int32} {px1 : Int32} {px2 : Int32} {px3 : Int32} {pk0 : ClassId} {h0 : Heap} (O0 : Old Z n0 h0) (hf0 : Arv Z h0 pa0 pk0 .byte (8 : Int32) [(.int px0.toInt8.toInt32), (.int (px0 >>> ((8 : Int32) &&& 31)).toInt8.toInt32), (.int px1.toInt8.toInt32), (.int (px1 >>> ((8 : Int32) &&& 31)).toInt8.toInt32), (.int px2.toInt8.toInt32), (.int (px2 >>> ((8 : Int32) &&& 31)).toInt8.toInt32), (.int px3.toInt8.toInt32), (.int (px3 >>> ((8 : Int32) &&& 31)).toInt8.toInt32)] (.int 0)) (hn0 : n0 ≤ pa0) (hk0 : ¬ (px0 < (0 : Int32))) (hk1 : ¬ ((65535 : Int32) < px0)) (hc_px0 : nar .char px0 = px0) (hc_px1 : nar .char px1 = px1) (hc_px2 : nar .char px2 = px2) (hc_px3 : nar .char px3 = px3) :
    Ow.Con l Z EL1 n0 my10 jdk_52_method_5_code 2 (Option.some Jvm.ClassFile.FieldType.char) [] ({ frames := 0, cells := 0, slots := 0, locals := 0 } : Room) #[(.ref pa0), (.int 0)] [pa0] h0 (fun v h S' => (v = some (.int px0) ∧ h = h0 ∧ S' = [])) := by
 refine Ow.Con.enter (Ls := #[.val (.ref pa0), .val (.int 0)]) (plainFor_of_name pn3) O0 (hEW hw) (hSA hw) ?_
 intro p e s m below meth c B
 have z0 := Ow.old_le O0
 have lpa0 : (pa0 : Nat) < h0.size := hf0.lt
 refine Ow.getstatic (pc' := 3) B e11_0 (w127 hw) Via.refl GS.1 ?_
 refine Ow.ifT (pc' := 28) B e11_3 (by decide) ?_
 refine Ow.iloadN (pc' := 29) B e11_28 ?_
 refine Ow.iconst (pc' := 30) (x := 1) B e11_29 ?_
 refine Ow.ishl (pc' := 31) (z := 0) B e11_30 ?_
 refine Ow.istoreN (pc' := 32) (Ls' := #[.val (.ref pa0), .val (.int 0)]) B e11_31 ?_
 refine Ow.aloadN (pc' := 33) B e11_32 ?_
 refine Ow.iloadN (pc' := 34) B e11_33 ?_
 refine Ow.iinc (pc' := 37) (y := 1) (Ls' := #[.val (.ref pa0), .val (.int 1)]) B e11_34 ?_
 refine Ow.baload (pc' := 38) B e11_37 hf0 ⟨by decide, by decide⟩ rfl ?_
 refine Ow.sipush (pc' := 41) (x := 255) B e11_38 ?_
 refine Ow.iand (pc' := 42) (z := (px0.toInt8.toInt32 &&& (255 : Int32))) B e11_41 ?_
 refine Ow.getstatic (pc' := 45) B e11_42 (w128 hw) Via.refl GS.2.1 ?_
 refine Ow.ishl (pc' := 46) (z := ((px0.toInt8.toInt32 &&& (255 : Int32)) <<< ((0 : Int32) &&& 31))) B e11_45 ?_
 refine Ow.aloadN (pc' := 47) B e11_46 ?_
 refine Ow.iloadN (pc' := 48) B e11_47 ?_
 refine Ow.baload (pc' := 49) B e11_48 hf0 ⟨by decide, by decide⟩ rfl ?_
 refine Ow.sipush (pc' := 52) (x := 255) B e11_49 ?_
 refine Ow.iand (pc' := 53) (z := ((px0 >>> ((8 : Int32) &&& 31)).toInt8.toInt32 &&& (255 : Int32))) B e11_52 ?_
 refine Ow.getstatic (pc' := 56) B e11_53 (w129 hw) Via.refl GS.2.2 ?_
 refine Ow.ishl (pc' := 57) (z := (((px0 >>> ((8 : Int32) &&& 31)).toInt8.toInt32 &&& (255 : Int32)) <<< ((8 : Int32) &&& 31))) B e11_56 ?_
 refine Ow.ior (pc' := 58) (z := px0) (hz := (Ow.u16 (hk0) (hk1))) B e11_57 ?_
 refine Ow.i2c (pc' := 59) (z := px0) (hz := hc_px0) B e11_58 ?_
 exact Ow.retI (S' := []) (t := .char) (hnn := (Ow.cnarrow hc_px0)) B e11_59 (⟨rfl, rfl, rfl⟩)
set_option maxRecDepth 65536 in
set_option maxHeartbeats 40000000 in
theorem con_getChar_123 (hw : Hw a0 Z) (G : Ow.Glo Z cz sf) (GS : GlS Z) {pa0 : Nat} {px0 : Int32} {px1 : Int32} {px2 : Int32} {px3 : Int32} {pk0 : ClassId} {h0 : Heap} (O0 : Old Z n0 h0) (hf0 : Arv Z h0 pa0 pk0 .byte (8 : Int32) [(.int px0.toInt8.toInt32), (.int (px0 >>> ((8 : Int32) &&& 31)).toInt8.toInt32), (.int px1.toInt8.toInt32), (.int (px1 >>> ((8 : Int32) &&& 31)).toInt8.toInt32), (.int px2.toInt8.toInt32), (.int (px2 >>> ((8 : Int32) &&& 31)).toInt8.toInt32), (.int px3.toInt8.toInt32), (.int (px3 >>> ((8 : Int32) &&& 31)).toInt8.toInt32)] (.int 0)) (hn0 : n0 ≤ pa0) (hk0 : ¬ (px1 < (0 : Int32))) (hk1 : ¬ ((65535 : Int32) < px1)) (hc_px0 : nar .char px0 = px0) (hc_px1 : nar .char px1 = px1) (hc_px2 : nar .char px2 = px2) (hc_px3 : nar .char px3 = px3) :
    Ow.Con l Z EL1 n0 my10 jdk_52_method_5_code 2 (Option.some Jvm.ClassFile.FieldType.char) [] ({ frames := 0, cells := 0, slots := 0, locals := 0 } : Room) #[(.ref pa0), (.int 1)] [pa0] h0 (fun v h S' => (v = some (.int px1) ∧ h = h0 ∧ S' = [])) := by
 refine Ow.Con.enter (Ls := #[.val (.ref pa0), .val (.int 1)]) (plainFor_of_name pn3) O0 (hEW hw) (hSA hw) ?_
 intro p e s m below meth c B
 have z0 := Ow.old_le O0
 have lpa0 : (pa0 : Nat) < h0.size := hf0.lt
 refine Ow.getstatic (pc' := 3) B e11_0 (w127 hw) Via.refl GS.1 ?_
 refine Ow.ifT (pc' := 28) B e11_3 (by decide) ?_
 refine Ow.iloadN (pc' := 29) B e11_28 ?_
 refine Ow.iconst (pc' := 30) (x := 1) B e11_29 ?_
 refine Ow.ishl (pc' := 31) (z := 2) B e11_30 ?_
 refine Ow.istoreN (pc' := 32) (Ls' := #[.val (.ref pa0), .val (.int 2)]) B e11_31 ?_
 refine Ow.aloadN (pc' := 33) B e11_32 ?_
 refine Ow.iloadN (pc' := 34) B e11_33 ?_
 refine Ow.iinc (pc' := 37) (y := 3) (Ls' := #[.val (.ref pa0), .val (.int 3)]) B e11_34 ?_
 refine Ow.baload (pc' := 38) B e11_37 hf0 ⟨by decide, by decide⟩ rfl ?_
 refine Ow.sipush (pc' := 41) (x := 255) B e11_38 ?_
 refine Ow.iand (pc' := 42) (z := (px1.toInt8.toInt32 &&& (255 : Int32))) B e11_41 ?_
 refine Ow.getstatic (pc' := 45) B e11_42 (w128 hw) Via.refl GS.2.1 ?_
 refine Ow.ishl (pc' := 46) (z := ((px1.toInt8.toInt32 &&& (255 : Int32)) <<< ((0 : Int32) &&& 31))) B e11_45 ?_
 refine Ow.aloadN (pc' := 47) B e11_46 ?_
 refine Ow.iloadN (pc' := 48) B e11_47 ?_
 refine Ow.baload (pc' := 49) B e11_48 hf0 ⟨by decide, by decide⟩ rfl ?_
 refine Ow.sipush (pc' := 52) (x := 255) B e11_49 ?_
 refine Ow.iand (pc' := 53) (z := ((px1 >>> ((8 : Int32) &&& 31)).toInt8.toInt32 &&& (255 : Int32))) B e11_52 ?_
 refine Ow.getstatic (pc' := 56) B e11_53 (w129 hw) Via.refl GS.2.2 ?_
 refine Ow.ishl (pc' := 57) (z := (((px1 >>> ((8 : Int32) &&& 31)).toInt8.toInt32 &&& (255 : Int32)) <<< ((8 : Int32) &&& 31))) B e11_56 ?_
 refine Ow.ior (pc' := 58) (z := px1) (hz := (Ow.u16 (hk0) (hk1))) B e11_57 ?_
 refine Ow.i2c (pc' := 59) (z := px1) (hz := hc_px1) B e11_58 ?_
 exact Ow.retI (S' := []) (t := .char) (hnn := (Ow.cnarrow hc_px1)) B e11_59 (⟨rfl, rfl, rfl⟩)
set_option maxRecDepth 65536 in
set_option maxHeartbeats 40000000 in
theorem con_getChar_124 (hw : Hw a0 Z) (G : Ow.Glo Z cz sf) (GS : GlS Z) {pa0 : Nat} {px0 : Int32} {px1 : Int32} {px2 : Int32} {px3 : Int32} {pk0 : ClassId} {h0 : Heap} (O0 : Old Z n0 h0) (hf0 : Arv Z h0 pa0 pk0 .byte (8 : Int32) [(.int px0.toInt8.toInt32), (.int (px0 >>> ((8 : Int32) &&& 31)).toInt8.toInt32), (.int px1.toInt8.toInt32), (.int (px1 >>> ((8 : Int32) &&& 31)).toInt8.toInt32), (.int px2.toInt8.toInt32), (.int (px2 >>> ((8 : Int32) &&& 31)).toInt8.toInt32), (.int px3.toInt8.toInt32), (.int (px3 >>> ((8 : Int32) &&& 31)).toInt8.toInt32)] (.int 0)) (hn0 : n0 ≤ pa0) (hk0 : ¬ (px2 < (0 : Int32))) (hk1 : ¬ ((65535 : Int32) < px2)) (hc_px0 : nar .char px0 = px0) (hc_px1 : nar .char px1 = px1) (hc_px2 : nar .char px2 = px2) (hc_px3 : nar .char px3 = px3) :
    Ow.Con l Z EL1 n0 my10 jdk_52_method_5_code 2 (Option.some Jvm.ClassFile.FieldType.char) [] ({ frames := 0, cells := 0, slots := 0, locals := 0 } : Room) #[(.ref pa0), (.int 2)] [pa0] h0 (fun v h S' => (v = some (.int px2) ∧ h = h0 ∧ S' = [])) := by
 refine Ow.Con.enter (Ls := #[.val (.ref pa0), .val (.int 2)]) (plainFor_of_name pn3) O0 (hEW hw) (hSA hw) ?_
 intro p e s m below meth c B
 have z0 := Ow.old_le O0
 have lpa0 : (pa0 : Nat) < h0.size := hf0.lt
 refine Ow.getstatic (pc' := 3) B e11_0 (w127 hw) Via.refl GS.1 ?_
 refine Ow.ifT (pc' := 28) B e11_3 (by decide) ?_
 refine Ow.iloadN (pc' := 29) B e11_28 ?_
 refine Ow.iconst (pc' := 30) (x := 1) B e11_29 ?_
 refine Ow.ishl (pc' := 31) (z := 4) B e11_30 ?_
 refine Ow.istoreN (pc' := 32) (Ls' := #[.val (.ref pa0), .val (.int 4)]) B e11_31 ?_
 refine Ow.aloadN (pc' := 33) B e11_32 ?_
 refine Ow.iloadN (pc' := 34) B e11_33 ?_
 refine Ow.iinc (pc' := 37) (y := 5) (Ls' := #[.val (.ref pa0), .val (.int 5)]) B e11_34 ?_
 refine Ow.baload (pc' := 38) B e11_37 hf0 ⟨by decide, by decide⟩ rfl ?_
 refine Ow.sipush (pc' := 41) (x := 255) B e11_38 ?_
 refine Ow.iand (pc' := 42) (z := (px2.toInt8.toInt32 &&& (255 : Int32))) B e11_41 ?_
 refine Ow.getstatic (pc' := 45) B e11_42 (w128 hw) Via.refl GS.2.1 ?_
 refine Ow.ishl (pc' := 46) (z := ((px2.toInt8.toInt32 &&& (255 : Int32)) <<< ((0 : Int32) &&& 31))) B e11_45 ?_
 refine Ow.aloadN (pc' := 47) B e11_46 ?_
 refine Ow.iloadN (pc' := 48) B e11_47 ?_
 refine Ow.baload (pc' := 49) B e11_48 hf0 ⟨by decide, by decide⟩ rfl ?_
 refine Ow.sipush (pc' := 52) (x := 255) B e11_49 ?_
 refine Ow.iand (pc' := 53) (z := ((px2 >>> ((8 : Int32) &&& 31)).toInt8.toInt32 &&& (255 : Int32))) B e11_52 ?_
 refine Ow.getstatic (pc' := 56) B e11_53 (w129 hw) Via.refl GS.2.2 ?_
 refine Ow.ishl (pc' := 57) (z := (((px2 >>> ((8 : Int32) &&& 31)).toInt8.toInt32 &&& (255 : Int32)) <<< ((8 : Int32) &&& 31))) B e11_56 ?_
 refine Ow.ior (pc' := 58) (z := px2) (hz := (Ow.u16 (hk0) (hk1))) B e11_57 ?_
 refine Ow.i2c (pc' := 59) (z := px2) (hz := hc_px2) B e11_58 ?_
 exact Ow.retI (S' := []) (t := .char) (hnn := (Ow.cnarrow hc_px2)) B e11_59 (⟨rfl, rfl, rfl⟩)
set_option maxRecDepth 65536 in
set_option maxHeartbeats 40000000 in
theorem con_getChar_125 (hw : Hw a0 Z) (G : Ow.Glo Z cz sf) (GS : GlS Z) {pa0 : Nat} {px0 : Int32} {px1 : Int32} {px2 : Int32} {px3 : Int32} {pk0 : ClassId} {h0 : Heap} (O0 : Old Z n0 h0) (hf0 : Arv Z h0 pa0 pk0 .byte (8 : Int32) [(.int px0.toInt8.toInt32), (.int (px0 >>> ((8 : Int32) &&& 31)).toInt8.toInt32), (.int px1.toInt8.toInt32), (.int (px1 >>> ((8 : Int32) &&& 31)).toInt8.toInt32), (.int px2.toInt8.toInt32), (.int (px2 >>> ((8 : Int32) &&& 31)).toInt8.toInt32), (.int px3.toInt8.toInt32), (.int (px3 >>> ((8 : Int32) &&& 31)).toInt8.toInt32)] (.int 0)) (hn0 : n0 ≤ pa0) (hk0 : ¬ (px3 < (0 : Int32))) (hk1 : ¬ ((65535 : Int32) < px3)) (hc_px0 : nar .char px0 = px0) (hc_px1 : nar .char px1 = px1) (hc_px2 : nar .char px2 = px2) (hc_px3 : nar .char px3 = px3) :
    Ow.Con l Z EL1 n0 my10 jdk_52_method_5_code 2 (Option.some Jvm.ClassFile.FieldType.char) [] ({ frames := 0, cells := 0, slots := 0, locals := 0 } : Room) #[(.ref pa0), (.int 3)] [pa0] h0 (fun v h S' => (v = some (.int px3) ∧ h = h0 ∧ S' = [])) := by
 refine Ow.Con.enter (Ls := #[.val (.ref pa0), .val (.int 3)]) (plainFor_of_name pn3) O0 (hEW hw) (hSA hw) ?_
 intro p e s m below meth c B
 have z0 := Ow.old_le O0
 have lpa0 : (pa0 : Nat) < h0.size := hf0.lt
 refine Ow.getstatic (pc' := 3) B e11_0 (w127 hw) Via.refl GS.1 ?_
 refine Ow.ifT (pc' := 28) B e11_3 (by decide) ?_
 refine Ow.iloadN (pc' := 29) B e11_28 ?_
 refine Ow.iconst (pc' := 30) (x := 1) B e11_29 ?_
 refine Ow.ishl (pc' := 31) (z := 6) B e11_30 ?_
 refine Ow.istoreN (pc' := 32) (Ls' := #[.val (.ref pa0), .val (.int 6)]) B e11_31 ?_
 refine Ow.aloadN (pc' := 33) B e11_32 ?_
 refine Ow.iloadN (pc' := 34) B e11_33 ?_
 refine Ow.iinc (pc' := 37) (y := 7) (Ls' := #[.val (.ref pa0), .val (.int 7)]) B e11_34 ?_
 refine Ow.baload (pc' := 38) B e11_37 hf0 ⟨by decide, by decide⟩ rfl ?_
 refine Ow.sipush (pc' := 41) (x := 255) B e11_38 ?_
 refine Ow.iand (pc' := 42) (z := (px3.toInt8.toInt32 &&& (255 : Int32))) B e11_41 ?_
 refine Ow.getstatic (pc' := 45) B e11_42 (w128 hw) Via.refl GS.2.1 ?_
 refine Ow.ishl (pc' := 46) (z := ((px3.toInt8.toInt32 &&& (255 : Int32)) <<< ((0 : Int32) &&& 31))) B e11_45 ?_
 refine Ow.aloadN (pc' := 47) B e11_46 ?_
 refine Ow.iloadN (pc' := 48) B e11_47 ?_
 refine Ow.baload (pc' := 49) B e11_48 hf0 ⟨by decide, by decide⟩ rfl ?_
 refine Ow.sipush (pc' := 52) (x := 255) B e11_49 ?_
 refine Ow.iand (pc' := 53) (z := ((px3 >>> ((8 : Int32) &&& 31)).toInt8.toInt32 &&& (255 : Int32))) B e11_52 ?_
 refine Ow.getstatic (pc' := 56) B e11_53 (w129 hw) Via.refl GS.2.2 ?_
 refine Ow.ishl (pc' := 57) (z := (((px3 >>> ((8 : Int32) &&& 31)).toInt8.toInt32 &&& (255 : Int32)) <<< ((8 : Int32) &&& 31))) B e11_56 ?_
 refine Ow.ior (pc' := 58) (z := px3) (hz := (Ow.u16 (hk0) (hk1))) B e11_57 ?_
 refine Ow.i2c (pc' := 59) (z := px3) (hz := hc_px3) B e11_58 ?_
 exact Ow.retI (S' := []) (t := .char) (hnn := (Ow.cnarrow hc_px3)) B e11_59 (⟨rfl, rfl, rfl⟩)
set_option maxRecDepth 65536 in
set_option maxHeartbeats 40000000 in
theorem con_compress_126 (hw : Hw a0 Z) (G : Ow.Glo Z cz sf) (GS : GlS Z) {pa0 : Nat} {px0 : Int32} {px1 : Int32} {px2 : Int32} {px3 : Int32} {pk0 : ClassId} {h0 : Heap} (O0 : Old Z n0 h0) (hf0 : Arv Z h0 pa0 pk0 .char (4 : Int32) [(.int px0), (.int px1), (.int px2), (.int px3)] (.int 0)) (hn0 : n0 ≤ pa0) (hk0 : ¬ (px0 < (0 : Int32))) (hk1 : ¬ ((65535 : Int32) < px0)) (hk2 : ¬ (px1 < (0 : Int32))) (hk3 : ¬ ((65535 : Int32) < px1)) (hk4 : ¬ (px2 < (0 : Int32))) (hk5 : ¬ ((65535 : Int32) < px2)) (hk6 : ¬ (px3 < (0 : Int32))) (hk7 : ¬ ((65535 : Int32) < px3)) (hc_px0 : nar .char px0 = px0) (hc_px1 : nar .char px1 = px1) (hc_px2 : nar .char px2 = px2) (hc_px3 : nar .char px3 = px3) :
    Ow.Con l Z EL1 n0 my11 jdk_52_method_16_code 6 (Option.some (Jvm.ClassFile.FieldType.array Jvm.ClassFile.FieldType.byte)) [] ({ frames := 3, cells := 2, slots := 12, locals := 40 } : Room) #[(.ref pa0), (.int 0), (.int 4)] [] h0 (fun v h S' => (∃ r0 : Nat, ∃ k0 : ClassId, v = some (.ref r0) ∧ Keep h0 h [] ∧ (255 : Int32) < px0 ∧ h0.size ≤ r0 ∧ Arv Z h r0 k0 .byte (8 : Int32) [(.int px0.toInt8.toInt32), (.int (px0 >>> ((8 : Int32) &&& 31)).toInt8.toInt32), (.int px1.toInt8.toInt32), (.int (px1 >>> ((8 : Int32) &&& 31)).toInt8.toInt32), (.int px2.toInt8.toInt32), (.int (px2 >>> ((8 : Int32) &&& 31)).toInt8.toInt32), (.int px3.toInt8.toInt32), (.int (px3 >>> ((8 : Int32) &&& 31)).toInt8.toInt32)] (.int 0) ∧ S' = [r0]) ∨ (∃ r0 : Nat, ∃ k0 : ClassId, v = some (.ref r0) ∧ Keep h0 h [] ∧ ¬ ((255 : Int32) < px0) ∧ (255 : Int32) < px1 ∧ h0.size ≤ r0 ∧ Arv Z h r0 k0 .byte (8 : Int32) [(.int px0.toInt8.toInt32), (.int (px0 >>> ((8 : Int32) &&& 31)).toInt8.toInt32), (.int px1.toInt8.toInt32), (.int (px1 >>> ((8 : Int32) &&& 31)).toInt8.toInt32), (.int px2.toInt8.toInt32), (.int (px2 >>> ((8 : Int32) &&& 31)).toInt8.toInt32), (.int px3.toInt8.toInt32), (.int (px3 >>> ((8 : Int32) &&& 31)).toInt8.toInt32)] (.int 0) ∧ S' = [r0]) ∨ (∃ r0 : Nat, ∃ k0 : ClassId, v = some (.ref r0) ∧ Keep h0 h [] ∧ ¬ ((255 : Int32) < px0) ∧ ¬ ((255 : Int32) < px1) ∧ (255 : Int32) < px2 ∧ h0.size ≤ r0 ∧ Arv Z h r0 k0 .byte (8 : Int32) [(.int px0.toInt8.toInt32), (.int (px0 >>> ((8 : Int32) &&& 31)).toInt8.toInt32), (.int px1.toInt8.toInt32), (.int (px1 >>> ((8 : Int32) &&& 31)).toInt8.toInt32), (.int px2.toInt8.toInt32), (.int (px2 >>> ((8 : Int32) &&& 31)).toInt8.toInt32), (.int px3.toInt8.toInt32), (.int (px3 >>> ((8 : Int32) &&& 31)).toInt8.toInt32)] (.int 0) ∧ S' = [r0]) ∨ (∃ r0 : Nat, ∃ k0 : ClassId, v = some (.ref r0) ∧ Keep h0 h [] ∧ ¬ ((255 : Int32) < px0) ∧ ¬ ((255 : Int32) < px1) ∧ ¬ ((255 : Int32) < px2) ∧ (255 : Int32) < px3 ∧ h0.size ≤ r0 ∧ Arv Z h r0 k0 .byte (8 : Int32) [(.int px0.toInt8.toInt32), (.int (px0 >>> ((8 : Int32) &&& 31)).toInt8.toInt32), (.int px1.toInt8.toInt32), (.int (px1 >>> ((8 : Int32) &&& 31)).toInt8.toInt32), (.int px2.toInt8.toInt32), (.int (px2 >>> ((8 : Int32) &&& 31)).toInt8.toInt32), (.int px3.toInt8.toInt32), (.int (px3 >>> ((8 : Int32) &&& 31)).toInt8.toInt32)] (.int 0) ∧ S' = [r0]) ∨ (∃ r0 : Nat, ∃ k0 : ClassId, v = some (.ref r0) ∧ Keep h0 h [] ∧ ¬ ((255 : Int32) < px0) ∧ ¬ ((255 : Int32) < px1) ∧ ¬ ((255 : Int32) < px2) ∧ ¬ ((255 : Int32) < px3) ∧ h0.size ≤ r0 ∧ Arv Z h r0 k0 .byte (4 : Int32) [(.int px0.toInt8.toInt32), (.int px1.toInt8.toInt32), (.int px2.toInt8.toInt32), (.int px3.toInt8.toInt32)] (.int 0) ∧ S' = [r0])) := by
 refine Ow.Con.enter (Ls := #[.val (.ref pa0), .val (.int 0), .val (.int 4), .unset, .unset, .unset]) (plainFor_of_name pn3) O0 (hEW hw) (hSA hw) ?_
 intro p e s m below meth c B
 have z0 := Ow.old_le O0
 have lpa0 : (pa0 : Nat) < h0.size := hf0.lt
 refine Ow.iloadN (pc' := 1) B e5_0 ?_
 refine Ow.newArr (pc' := 3) (k' := 1) (n' := 4) (cap := 4) B e5_1 (w21 hw) (by decide) (by decide) ?_
 intro h2 a1 ka1 ga1 ba1 Kh2 V0a1
 have zh2 := Kh2.1
 have la1 : (a1 : Nat) < h2.size := V0a1.lt
 have Va1 : Arv Z h2 a1 ka1 .byte (4 : Int32) [(.int 0), (.int 0), (.int 0), (.int 0)] (.int 0) := V0a1.pad (pad_rep [] (.int 0) 4)
 refine Ow.astoreN (pc' := 4) (Ls' := #[.val (.ref pa0), .val (.int 0), .val (.int 4), .val (.ref a1), .unset, .unset]) B e5_3 ?_
 refine Ow.aloadN (pc' := 5) B e5_4 ?_
 refine Ow.iloadN (pc' := 6) B e5_5 ?_
 refine Ow.aloadN (pc' := 7) B e5_6 ?_
 refine Ow.iconst (pc' := 8) (x := 0) B e5_7 ?_
 refine Ow.iloadN (pc' := 9) B e5_8 ?_
 refine Ow.Go.old (fun o3 => ?_)
 have f4 := hf0.keep Kh2 Ow.nin0
 refine Ow.callStatic (pc' := 12) (W := 0) (k' := 1) (n' := 4) (argsL := [(.ref pa0), (.int 0), (.ref a1), (.int 0), (.int 4)]) (rest := []) B e5_9 (w42 hw) (w43 hw) (w40 hw) (w44 hw) (con_compress_114 hw G GS (pa0 := pa0) (pa1 := a1) (px0 := px0) (px1 := px1) (px2 := px2) (px3 := px3) (pk0 := pk0) (pk1 := ka1) o3 f4 Va1 (by omega) (by omega) (by omega) hc_px0 hc_px1 hc_px2 hc_px3) pd5 ?_
 intro vq5 h6 S7 q5 zh6
 rcases q5 with q5 | q5 | q5 | q5 | q5
 ·obtain ⟨rfl, rfl, c8, rfl⟩ := q5
  refine Ow.Go.nr (S' := [a1]) (st' := [(.int 0)]) ?_
  refine Ow.istore (pc' := 14) (Ls' := #[.val (.ref pa0), .val (.int 0), .val (.int 4), .val (.ref a1), .val (.int 0), .unset]) B e5_12 ?_
  refine Ow.iload (pc' := 16) B e5_14 ?_
  refine Ow.iloadN (pc' := 17) B e5_16 ?_
  refine Ow.icmpF (pc' := 20) B e5_17 (by decide) ?_
  refine Ow.aloadN (pc' := 21) B e5_20 ?_
  refine Ow.iloadN (pc' := 22) B e5_21 ?_
  refine Ow.iloadN (pc' := 23) B e5_22 ?_
  refine Ow.Go.old (fun o9 => ?_)
  refine Ow.callStatic (pc' := 26) (W := 0) (k' := 2) (n' := 12) (argsL := [(.ref pa0), (.int 0), (.int 4)]) (rest := []) B e5_23 (w114 hw) (w115 hw) (w40 hw) (w116 hw) (con_toBytes_121 hw G GS (pa0 := pa0) (px0 := px0) (px1 := px1) (px2 := px2) (px3 := px3) (pk0 := pk0) o9 f4 (by omega) hc_px0 hc_px1 hc_px2 hc_px3) pd9 ?_
  intro vq10 h11 S12 q10 zh11
  obtain ⟨r13, k14, rfl, Kh11, br13, f15, rfl⟩ := q10
  have lr13 : (r13 : Nat) < h11.size := f15.lt
  refine Ow.Go.norm (S' := [r13, a1]) (st' := [(.ref r13)]) (fun _ q => q) rfl ?_
  refine Ow.astore (pc' := 28) (Ls' := #[.val (.ref pa0), .val (.int 0), .val (.int 4), .val (.ref a1), .val (.int 0), .val (.ref r13)]) B e5_26 ?_
  refine Ow.aload (pc' := 30) B e5_28 ?_
  refine Ow.iload (pc' := 32) B e5_30 ?_
  refine Ow.Go.old (fun o16 => ?_)
  refine Ow.callStatic (pc' := 35) (W := 0) (k' := 2) (n' := 12) (argsL := [(.ref r13), (.int 0)]) (rest := []) B e5_32 (w130 hw) (w131 hw) (w40 hw) (w132 hw) (con_getChar_122 hw G GS (pa0 := r13) (px0 := px0) (px1 := px1) (px2 := px2) (px3 := px3) (pk0 := k14) o16 f15 (by omega) (hk0) (hk1) hc_px0 hc_px1 hc_px2 hc_px3) pd10 ?_
  intro vq17 h18 S19 q17 zh18
  obtain ⟨rfl, rfl, rfl⟩ := q17
  refine Ow.Go.nr (S' := [r13, a1]) (st' := [(.int px0)]) ?_
  refine Ow.sipush (pc' := 38) (x := 255) B e5_35 ?_
  refine Ow.icmpT (pc' := 54) B e5_38 (tlt (c8)).2.2.1 ?_
  refine Ow.aload (pc' := 56) B e5_54 ?_
  exact Ow.retA (S' := [r13]) (t := (.array .byte)) B e5_56 (Or.inl (⟨r13, k14, rfl, (((Keep.refl _ []).trans Kh2 (fun _ q => nomatch q)).trans Kh11 (fun _ q => nomatch q)), c8, (by omega), f15, rfl⟩))
 ·obtain ⟨rfl, Kh6, c20, c21, f22, rfl⟩ := q5
  refine Ow.Go.nr (S' := [a1]) (st' := [(.int 1)]) ?_
  refine Ow.istore (pc' := 14) (Ls' := #[.val (.ref pa0), .val (.int 0), .val (.int 4), .val (.ref a1), .val (.int 1), .unset]) B e5_12 ?_
  refine Ow.iload (pc' := 16) B e5_14 ?_
  refine Ow.iloadN (pc' := 17) B e5_16 ?_
  refine Ow.icmpF (pc' := 20) B e5_17 (by decide) ?_
  refine Ow.aloadN (pc' := 21) B e5_20 ?_
  refine Ow.iloadN (pc' := 22) B e5_21 ?_
  refine Ow.iloadN (pc' := 23) B e5_22 ?_
  refine Ow.Go.old (fun o23 => ?_)
  have f24 := f4.keep Kh6 (Ow.ninS (by omega) Ow.nin0)
  refine Ow.callStatic (pc' := 26) (W := 0) (k' := 2) (n' := 12) (argsL := [(.ref pa0), (.int 0), (.int 4)]) (rest := []) B e5_23 (w114 hw) (w115 hw) (w40 hw) (w116 hw) (con_toBytes_121 hw G GS (pa0 := pa0) (px0 := px0) (px1 := px1) (px2 := px2) (px3 := px3) (pk0 := pk0) o23 f24 (by omega) hc_px0 hc_px1 hc_px2 hc_px3) pd9 ?_
  intro vq25 h26 S27 q25 zh26
  obtain ⟨r28, k29, rfl, Kh26, br28, f30, rfl⟩ := q25
  have lr28 : (r28 : Nat) < h26.size := f30.lt
  refine Ow.Go.norm (S' := [r28, a1]) (st' := [(.ref r28)]) (fun _ q => q) rfl ?_
  refine Ow.astore (pc' := 28) (Ls' := #[.val (.ref pa0), .val (.int 0), .val (.int 4), .val (.ref a1), .val (.int 1), .val (.ref r28)]) B e5_26 ?_
  refine Ow.aload (pc' := 30) B e5_28 ?_
  refine Ow.iload (pc' := 32) B e5_30 ?_
  refine Ow.Go.old (fun o31 => ?_)
  refine Ow.callStatic (pc' := 35) (W := 0) (k' := 2) (n' := 12) (argsL := [(.ref r28), (.int 1)]) (rest := []) B e5_32 (w130 hw) (w131 hw) (w40 hw) (w132 hw) (con_getChar_123 hw G GS (pa0 := r28) (px0 := px0) (px1 := px1) (px2 := px2) (px3 := px3) (pk0 := k29) o31 f30 (by omega) (hk2) (hk3) hc_px0 hc_px1 hc_px2 hc_px3) pd10 ?_
  intro vq32 h33 S34 q32 zh33
  obtain ⟨rfl, rfl, rfl⟩ := q32
  refine Ow.Go.nr (S' := [r28, a1]) (st' := [(.int px1)]) ?_
  refine Ow.sipush (pc' := 38) (x := 255) B e5_35 ?_
  refine Ow.icmpT (pc' := 54) B e5_38 (tlt (c21)).2.2.1 ?_
  refine Ow.aload (pc' := 56) B e5_54 ?_
  exact Ow.retA (S' := [r28]) (t := (.array .byte)) B e5_56 (Or.inr (Or.inl (⟨r28, k29, rfl, ((((Keep.refl _ []).trans Kh2 (fun _ q => nomatch q)).trans Kh6 (allS (Or.inr (by omega)) all0)).trans Kh26 (fun _ q => nomatch q)), c20, c21, (by omega), f30, rfl⟩)))
 ·obtain ⟨rfl, Kh6, c35, c36, c37, f38, rfl⟩ := q5
  refine Ow.Go.nr (S' := [a1]) (st' := [(.int 2)]) ?_
  refine Ow.istore (pc' := 14) (Ls' := #[.val (.ref pa0), .val (.int 0), .val (.int 4), .val (.ref a1), .val (.int 2), .unset]) B e5_12 ?_
  refine Ow.iload (pc' := 16) B e5_14 ?_
  refine Ow.iloadN (pc' := 17) B e5_16 ?_
  refine Ow.icmpF (pc' := 20) B e5_17 (by decide) ?_
  refine Ow.aloadN (pc' := 21) B e5_20 ?_
  refine Ow.iloadN (pc' := 22) B e5_21 ?_
  refine Ow.iloadN (pc' := 23) B e5_22 ?_
  refine Ow.Go.old (fun o39 => ?_)
  have f40 := f4.keep Kh6 (Ow.ninS (by omega) Ow.nin0)
  refine Ow.callStatic (pc' := 26) (W := 0) (k' := 2) (n' := 12) (argsL := [(.ref pa0), (.int 0), (.int 4)]) (rest := []) B e5_23 (w114 hw) (w115 hw) (w40 hw) (w116 hw) (con_toBytes_121 hw G GS (pa0 := pa0) (px0 := px0) (px1 := px1) (px2 := px2) (px3 := px3) (pk0 := pk0) o39 f40 (by omega) hc_px0 hc_px1 hc_px2 hc_px3) pd9 ?_
  intro vq41 h42 S43 q41 zh42
  obtain ⟨r44, k45, rfl, Kh42, br44, f46, rfl⟩ := q41
  have lr44 : (r44 : Nat) < h42.size := f46.lt
  refine Ow.Go.norm (S' := [r44, a1]) (st' := [(.ref r44)]) (fun _ q => q) rfl ?_
  refine Ow.astore (pc' := 28) (Ls' := #[.val (.ref pa0), .val (.int 0), .val (.int 4), .val (.ref a1), .val (.int 2), .val (.ref r44)]) B e5_26 ?_
  refine Ow.aload (pc' := 30) B e5_28 ?_
  refine Ow.iload (pc' := 32) B e5_30 ?_
  refine Ow.Go.old (fun o47 => ?_)
  refine Ow.callStatic (pc' := 35) (W := 0) (k' := 2) (n' := 12) (argsL := [(.ref r44), (.int 2)]) (rest := []) B e5_32 (w130 hw) (w131 hw) (w40 hw) (w132 hw) (con_getChar_124 hw G GS (pa0 := r44) (px0 := px0) (px1 := px1) (px2 := px2) (px3 := px3) (pk0 := k45) o47 f46 (by omega) (hk4) (hk5) hc_px0 hc_px1 hc_px2 hc_px3) pd10 ?_
  intro vq48 h49 S50 q48 zh49
  obtain ⟨rfl, rfl, rfl⟩ := q48
  refine Ow.Go.nr (S' := [r44, a1]) (st' := [(.int px2)]) ?_
  refine Ow.sipush (pc' := 38) (x := 255) B e5_35 ?_
  refine Ow.icmpT (pc' := 54) B e5_38 (tlt (c37)).2.2.1 ?_
  refine Ow.aload (pc' := 56) B e5_54 ?_
  exact Ow.retA (S' := [r44]) (t := (.array .byte)) B e5_56 (Or.inr (Or.inr (Or.inl (⟨r44, k45, rfl, ((((Keep.refl _ []).trans Kh2 (fun _ q => nomatch q)).trans Kh6 (allS (Or.inr (by omega)) all0)).trans Kh42 (fun _ q => nomatch q)), c35, c36, c37, (by omega), f46, rfl⟩))))
 ·obtain ⟨rfl, Kh6, c51, c52, c53, c54, f55, rfl⟩ := q5
  refine Ow.Go.nr (S' := [a1]) (st' := [(.int 3)]) ?_
  refine Ow.istore (pc' := 14) (Ls' := #[.val (.ref pa0), .val (.int 0), .val (.int 4), .val (.ref a1), .val (.int 3), .unset]) B e5_12 ?_
  refine Ow.iload (pc' := 16) B e5_14 ?_
  refine Ow.iloadN (pc' := 17) B e5_16 ?_
  refine Ow.icmpF (pc' := 20) B e5_17 (by decide) ?_
  refine Ow.aloadN (pc' := 21) B e5_20 ?_
  refine Ow.iloadN (pc' := 22) B e5_21 ?_
  refine Ow.iloadN (pc' := 23) B e5_22 ?_
  refine Ow.Go.old (fun o56 => ?_)
  have f57 := f4.keep Kh6 (Ow.ninS (by omega) Ow.nin0)
  refine Ow.callStatic (pc' := 26) (W := 0) (k' := 2) (n' := 12) (argsL := [(.ref pa0), (.int 0), (.int 4)]) (rest := []) B e5_23 (w114 hw) (w115 hw) (w40 hw) (w116 hw) (con_toBytes_121 hw G GS (pa0 := pa0) (px0 := px0) (px1 := px1) (px2 := px2) (px3 := px3) (pk0 := pk0) o56 f57 (by omega) hc_px0 hc_px1 hc_px2 hc_px3) pd9 ?_
  intro vq58 h59 S60 q58 zh59
  obtain ⟨r61, k62, rfl, Kh59, br61, f63, rfl⟩ := q58
  have lr61 : (r61 : Nat) < h59.size := f63.lt
  refine Ow.Go.norm (S' := [r61, a1]) (st' := [(.ref r61)]) (fun _ q => q) rfl ?_
  refine Ow.astore (pc' := 28) (Ls' := #[.val (.ref pa0), .val (.int 0), .val (.int 4), .val (.ref a1), .val (.int 3), .val (.ref r61)]) B e5_26 ?_
  refine Ow.aload (pc' := 30) B e5_28 ?_
  refine Ow.iload (pc' := 32) B e5_30 ?_
  refine Ow.Go.old (fun o64 => ?_)
  refine Ow.callStatic (pc' := 35) (W := 0) (k' := 2) (n' := 12) (argsL := [(.ref r61), (.int 3)]) (rest := []) B e5_32 (w130 hw) (w131 hw) (w40 hw) (w132 hw) (con_getChar_125 hw G GS (pa0 := r61) (px0 := px0) (px1 := px1) (px2 := px2) (px3 := px3) (pk0 := k62) o64 f63 (by omega) (hk6) (hk7) hc_px0 hc_px1 hc_px2 hc_px3) pd10 ?_
  intro vq65 h66 S67 q65 zh66
  obtain ⟨rfl, rfl, rfl⟩ := q65
  refine Ow.Go.nr (S' := [r61, a1]) (st' := [(.int px3)]) ?_
  refine Ow.sipush (pc' := 38) (x := 255) B e5_35 ?_
  refine Ow.icmpT (pc' := 54) B e5_38 (tlt (c54)).2.2.1 ?_
  refine Ow.aload (pc' := 56) B e5_54 ?_
  exact Ow.retA (S' := [r61]) (t := (.array .byte)) B e5_56 (Or.inr (Or.inr (Or.inr (Or.inl (⟨r61, k62, rfl, ((((Keep.refl _ []).trans Kh2 (fun _ q => nomatch q)).trans Kh6 (allS (Or.inr (by omega)) all0)).trans Kh59 (fun _ q => nomatch q)), c51, c52, c53, c54, (by omega), f63, rfl⟩)))))
 ·obtain ⟨rfl, Kh6, c68, c69, c70, c71, f72, rfl⟩ := q5
  refine Ow.Go.nr (S' := [a1]) (st' := [(.int 4)]) ?_
  refine Ow.istore (pc' := 14) (Ls' := #[.val (.ref pa0), .val (.int 0), .val (.int 4), .val (.ref a1), .val (.int 4), .unset]) B e5_12 ?_
  refine Ow.iload (pc' := 16) B e5_14 ?_
  refine Ow.iloadN (pc' := 17) B e5_16 ?_
  refine Ow.icmpT (pc' := 57) B e5_17 (by decide) ?_
  refine Ow.aloadN (pc' := 58) B e5_57 ?_
  exact Ow.retA (S' := [a1]) (t := (.array .byte)) B e5_58 (Or.inr (Or.inr (Or.inr (Or.inr (⟨a1, ka1, rfl, (((Keep.refl _ []).trans Kh2 (fun _ q => nomatch q)).trans Kh6 (allS (Or.inr (by omega)) all0)), c68, c69, c70, c71, (by omega), f72, rfl⟩)))))
set_option maxRecDepth 65536 in
set_option maxHeartbeats 40000000 in
theorem con_coderFromArrayLen_127 (hw : Hw a0 Z) (G : Ow.Glo Z cz sf) (GS : GlS Z) {pa0 : Nat} {px0 : Int32} {px1 : Int32} {px2 : Int32} {px3 : Int32} {pk0 : ClassId} {h0 : Heap} (O0 : Old Z n0 h0) (hf0 : Arv Z h0 pa0 pk0 .byte (8 : Int32) [(.int px0.toInt8.toInt32), (.int (px0 >>> ((8 : Int32) &&& 31)).toInt8.toInt32), (.int px1.toInt8.toInt32), (.int (px1 >>> ((8 : Int32) &&& 31)).toInt8.toInt32), (.int px2.toInt8.toInt32), (.int (px2 >>> ((8 : Int32) &&& 31)).toInt8.toInt32), (.int px3.toInt8.toInt32), (.int (px3 >>> ((8 : Int32) &&& 31)).toInt8.toInt32)] (.int 0)) (hn0 : n0 ≤ pa0) (hc_px0 : nar .char px0 = px0) (hc_px1 : nar .char px1 = px1) (hc_px2 : nar .char px2 = px2) (hc_px3 : nar .char px3 = px3) :
    Ow.Con l Z EL1 n0 my12 jdk_52_method_15_code 2 (Option.some Jvm.ClassFile.FieldType.byte) [] ({ frames := 0, cells := 0, slots := 0, locals := 0 } : Room) #[(.ref pa0), (.int 4)] [pa0] h0 (fun v h S' => (v = some (.int 1) ∧ h = h0 ∧ S' = [])) := by
 refine Ow.Con.enter (Ls := #[.val (.ref pa0), .val (.int 4)]) (plainFor_of_name pn3) O0 (hEW hw) (hSA hw) ?_
 intro p e s m below meth c B
 have z0 := Ow.old_le O0
 have lpa0 : (pa0 : Nat) < h0.size := hf0.lt
 refine Ow.iloadN (pc' := 1) B e12_0 ?_
 refine Ow.aloadN (pc' := 2) B e12_1 ?_
 refine Ow.arrlen (pc' := 3) B e12_2 hf0 ?_
 refine Ow.isub (pc' := 4) (z := (-4 : Int32)) B e12_3 ?_
 refine Ow.bipush (pc' := 6) (x := 31) B e12_4 ?_
 refine Ow.iushr (pc' := 7) (z := 1) B e12_6 ?_
 refine Ow.i2b (pc' := 8) (z := 1) B e12_7 ?_
 exact Ow.retI (S' := []) (t := .byte) B e12_8 (⟨rfl, rfl, rfl⟩)
set_option maxRecDepth 65536 in
set_option maxHeartbeats 40000000 in
theorem con_coderFromArrayLen_128 (hw : Hw a0 Z) (G : Ow.Glo Z cz sf) (GS : GlS Z) {pa0 : Nat} {px0 : Int32} {px1 : Int32} {px2 : Int32} {px3 : Int32} {pk0 : ClassId} {h0 : Heap} (O0 : Old Z n0 h0) (hf0 : Arv Z h0 pa0 pk0 .byte (4 : Int32) [(.int px0.toInt8.toInt32), (.int px1.toInt8.toInt32), (.int px2.toInt8.toInt32), (.int px3.toInt8.toInt32)] (.int 0)) (hn0 : n0 ≤ pa0) (hc_px0 : nar .char px0 = px0) (hc_px1 : nar .char px1 = px1) (hc_px2 : nar .char px2 = px2) (hc_px3 : nar .char px3 = px3) :
    Ow.Con l Z EL1 n0 my12 jdk_52_method_15_code 2 (Option.some Jvm.ClassFile.FieldType.byte) [] ({ frames := 0, cells := 0, slots := 0, locals := 0 } : Room) #[(.ref pa0), (.int 4)] [pa0] h0 (fun v h S' => (v = some (.int 0) ∧ h = h0 ∧ S' = [])) := by
 refine Ow.Con.enter (Ls := #[.val (.ref pa0), .val (.int 4)]) (plainFor_of_name pn3) O0 (hEW hw) (hSA hw) ?_
 intro p e s m below meth c B
 have z0 := Ow.old_le O0
 have lpa0 : (pa0 : Nat) < h0.size := hf0.lt
 refine Ow.iloadN (pc' := 1) B e12_0 ?_
 refine Ow.aloadN (pc' := 2) B e12_1 ?_
 refine Ow.arrlen (pc' := 3) B e12_2 hf0 ?_
 refine Ow.isub (pc' := 4) (z := 0) B e12_3 ?_
 refine Ow.bipush (pc' := 6) (x := 31) B e12_4 ?_
 refine Ow.iushr (pc' := 7) (z := 0) B e12_6 ?_
 refine Ow.i2b (pc' := 8) (z := 0) B e12_7 ?_
 exact Ow.retI (S' := []) (t := .byte) B e12_8 (⟨rfl, rfl, rfl⟩)
set_option maxRecDepth 65536 in
set_option maxHeartbeats 40000000 in
theorem con_init_129 (hw : Hw a0 Z) (G : Ow.Glo Z cz sf) (GS : GlS Z) {pa0 : Nat} {pa1 : Nat} {px0 : Int32} {px1 : Int32} {px2 : Int32} {px3 : Int32} {pk0 : ClassId} {h0 : Heap} (O0 : Old Z n0 h0) (hf0 : Exa Z h0 pa0 "java/lang/String") (hf1 : Fld Z h0 pa0 "java/lang/String" "coder" "B" (.int 0)) (hf2 : Fld Z h0 pa0 "java/lang/String" "value" "[B" .null) (hf3 : Arv Z h0 pa1 pk0 .char (4 : Int32) [(.int px0), (.int px1), (.int px2), (.int px3)] (.int 0)) (hn0 : n0 ≤ pa0) (hn1 : n0 ≤ pa1) (hk0 : ¬ (px0 < (0 : Int32))) (hk1 : ¬ ((65535 : Int32) < px0)) (hk2 : ¬ (px1 < (0 : Int32))) (hk3 : ¬ ((65535 : Int32) < px1)) (hk4 : ¬ (px2 < (0 : Int32))) (hk5 : ¬ ((65535 : Int32) < px2)) (hk6 : ¬ (px3 < (0 : Int32))) (hk7 : ¬ ((65535 : Int32) < px3)) (hc_px0 : nar .char px0 = px0) (hc_px1 : nar .char px1 = px1) (hc_px2 : nar .char px2 = px2) (hc_px3 : nar .char px3 = px3) :
    Ow.Con l Z EL1 n0 my0 jdk_42_method_149_code 6 (Option.none : Option Jvm.ClassFile.FieldType) [] ({ frames := 4, cells := 2, slots := 12, locals := 57 } : Room) #[(.ref pa0), (.ref pa1), (.int 0), (.int 4), .null] [pa0] h0 (fun v h S' => (∃ r0 : Nat, ∃ k0 : ClassId, v = none ∧ Keep h0 h [pa0] ∧ h0.size ≤ r0 ∧ Ow.Chs Z h pa0 r0 k0 [px0, px1, px2, px3] ∧ S' = [])) := by
 refine Ow.Con.enter (Ls := #[.val (.ref pa0), .val (.ref pa1), .val (.int 0), .val (.int 4), .val .null, .unset]) (plainFor_of_name pn1) O0 (hEW hw) (hSA hw) ?_
 intro p e s m below meth c B
 have z0 := Ow.old_le O0
 have lpa0 : (pa0 : Nat) < h0.size := hf0.lt
 have lpa1 : (pa1 : Nat) < h0.size := hf3.lt
 refine Ow.aloadN (pc' := 1) B e3_0 ?_
 refine Ow.objInit (pc' := 4) (W := 0) B e3_1 (w17 hw) (w18 hw) (w19 hw) ?_
 refine Ow.iloadN (pc' := 5) B e3_4 ?_
 refine Ow.ifT (pc' := 27) B e3_5 (by decide) ?_
 refine Ow.getstatic (pc' := 30) B e3_27 (w37 hw) Via.refl G.1 ?_
 refine Ow.ifF (pc' := 33) B e3_30 (feq (G.2.1)).1 ?_
 refine Ow.aloadN (pc' := 34) B e3_33 ?_
 refine Ow.iloadN (pc' := 35) B e3_34 ?_
 refine Ow.iloadN (pc' := 36) B e3_35 ?_
 refine Ow.Go.old (fun o1 => ?_)
 refine Ow.callStatic (pc' := 39) (W := 0) (k' := 2) (n' := 12) (argsL := [(.ref pa1), (.int 0), (.int 4)]) (rest := []) B e3_36 (w38 hw) (w39 hw) (w40 hw) (w41 hw) (con_compress_126 hw G GS (pa0 := pa1) (px0 := px0) (px1 := px1) (px2 := px2) (px3 := px3) (pk0 := pk0) o1 hf3 (by omega) (hk0) (hk1) (hk2) (hk3) (hk4) (hk5) (hk6) (hk7) hc_px0 hc_px1 hc_px2 hc_px3) pd9 ?_
 intro vq2 h3 S4 q2 zh3
 rcases q2 with q2 | q2 | q2 | q2 | q2
 ·obtain ⟨r5, k6, rfl, Kh3, c7, br5, f8, rfl⟩ := q2
  have lr5 : (r5 : Nat) < h3.size := f8.lt
  refine Ow.Go.norm (S' := [r5, pa0]) (st' := [(.ref r5)]) (fun _ q => q) rfl ?_
  refine Ow.astore (pc' := 41) (Ls' := #[.val (.ref pa0), .val (.ref pa1), .val (.int 0), .val (.int 4), .val .null, .val (.ref r5)]) B e3_39 ?_
  refine Ow.aloadN (pc' := 42) B e3_41 ?_
  refine Ow.aload (pc' := 44) B e3_42 ?_
  refine Ow.iloadN (pc' := 45) B e3_44 ?_
  refine Ow.Go.old (fun o9 => ?_)
  refine Ow.callStatic (pc' := 48) (W := 1) (k' := 2) (n' := 12) (argsL := [(.ref r5), (.int 4)]) (rest := [(.ref pa0)]) B e3_45 (w45 hw) (w46 hw) (w40 hw) (w47 hw) (con_coderFromArrayLen_127 hw G GS (pa0 := r5) (px0 := px0) (px1 := px1) (px2 := px2) (px3 := px3) (pk0 := k6) o9 f8 (by omega) hc_px0 hc_px1 hc_px2 hc_px3) pd11 ?_
  intro vq10 h11 S12 q10 zh11
  obtain ⟨rfl, rfl, rfl⟩ := q10
  refine Ow.Go.nr (S' := [r5, pa0]) (st' := [(.int 1), (.ref pa0)]) ?_
  have f13 := hf1.keep Kh3 Ow.nin0
  have f14 := hf0.keep Kh3
  refine Ow.putfield (pc' := 51) (ty := .byte) B e3_48 (w27 hw) Via.refl f13 f14 (Or.inr ⟨(w23 hw), rfl, rfl⟩) (w7 hw) (Or.inl (by simp)) ?_
  intro h15 Wh15
  have f16 := hf2.keep Kh3 Ow.nin0
  have Kh15 := Keep.of_wr Wh15
  have zh15 := Kh15.1
  have f17 : Fld Z h15 pa0 "java/lang/String" "coder" "B" (.int 1) := f13.same Wh15
  have f18 : Fld Z h15 pa0 "java/lang/String" "value" "[B" .null := f16.other Wh15 (Or.inr (slot_ne (a0 := a0) (C := "java/lang/String") (t := (.array .byte)) (t' := .byte) (Or.inr (w22 hw)) (Or.inr (w23 hw)) (by decide) (by decide) (by decide)))
  refine Ow.aloadN (pc' := 52) B e3_51 ?_
  refine Ow.aload (pc' := 54) B e3_52 ?_
  have f19 := f14.keep Kh15
  refine Ow.putfield (pc' := 57) (ty := (.array .byte)) B e3_54 (w26 hw) Via.refl f18 f19 (Or.inr ⟨(w22 hw), rfl, rfl⟩) (w7 hw) (Or.inl (by simp)) ?_
  intro h20 Wh20
  have Kh20 := Keep.of_wr Wh20
  have zh20 := Kh20.1
  have f21 : Fld Z h20 pa0 "java/lang/String" "value" "[B" (.ref r5) := f18.same Wh20
  have f22 : Fld Z h20 pa0 "java/lang/String" "coder" "B" (.int 1) := f17.other Wh20 (Or.inr (slot_ne (a0 := a0) (C := "java/lang/String") (t := .byte) (t' := (.array .byte)) (Or.inr (w23 hw)) (Or.inr (w22 hw)) (by decide) (by decide) (by decide)))
  have f23 := f19.keep Kh20
  have f24 := f8.keep Kh15 (Ow.ninS (by omega) Ow.nin0)
  have f25 := f24.keep Kh20 (Ow.ninS (by omega) Ow.nin0)
  have s26 : Ow.Chs Z h20 pa0 r5 k6 [px0, px1, px2, px3] := ⟨f23, f21, (Ow.allI ⟨(hk0), (hk1)⟩ (Ow.allI ⟨(hk2), (hk3)⟩ (Ow.allI ⟨(hk4), (hk5)⟩ (Ow.allI ⟨(hk6), (hk7)⟩ Ow.allI0)))), Or.inr ⟨f22, f25, px0, by simp, c7⟩⟩
  exact Ow.retV (S' := []) B e3_57 (⟨r5, k6, rfl, ((((Keep.refl _ [pa0]).trans Kh3 (fun _ q => nomatch q)).trans Kh15 (allS (Or.inl (by simp)) all0)).trans Kh20 (allS (Or.inl (by simp)) all0)), (by omega), s26, rfl⟩)
 ·obtain ⟨r27, k28, rfl, Kh3, c29, c30, br27, f31, rfl⟩ := q2
  have lr27 : (r27 : Nat) < h3.size := f31.lt
  refine Ow.Go.norm (S' := [r27, pa0]) (st' := [(.ref r27)]) (fun _ q => q) rfl ?_
  refine Ow.astore (pc' := 41) (Ls' := #[.val (.ref pa0), .val (.ref pa1), .val (.int 0), .val (.int 4), .val .null, .val (.ref r27)]) B e3_39 ?_
  refine Ow.aloadN (pc' := 42) B e3_41 ?_
  refine Ow.aload (pc' := 44) B e3_42 ?_
  refine Ow.iloadN (pc' := 45) B e3_44 ?_
  refine Ow.Go.old (fun o32 => ?_)
  refine Ow.callStatic (pc' := 48) (W := 1) (k' := 2) (n' := 12) (argsL := [(.ref r27), (.int 4)]) (rest := [(.ref pa0)]) B e3_45 (w45 hw) (w46 hw) (w40 hw) (w47 hw) (con_coderFromArrayLen_127 hw G GS (pa0 := r27) (px0 := px0) (px1 := px1) (px2 := px2) (px3 := px3) (pk0 := k28) o32 f31 (by omega) hc_px0 hc_px1 hc_px2 hc_px3) pd11 ?_
  intro vq33 h34 S35 q33 zh34
  obtain ⟨rfl, rfl, rfl⟩ := q33
  refine Ow.Go.nr (S' := [r27, pa0]) (st' := [(.int 1), (.ref pa0)]) ?_
  have f36 := hf1.keep Kh3 Ow.nin0
  have f37 := hf0.keep Kh3
  refine Ow.putfield (pc' := 51) (ty := .byte) B e3_48 (w27 hw) Via.refl f36 f37 (Or.inr ⟨(w23 hw), rfl, rfl⟩) (w7 hw) (Or.inl (by simp)) ?_
  intro h38 Wh38
  have f39 := hf2.keep Kh3 Ow.nin0
  have Kh38 := Keep.of_wr Wh38
  have zh38 := Kh38.1
  have f40 : Fld Z h38 pa0 "java/lang/String" "coder" "B" (.int 1) := f36.same Wh38
  have f41 : Fld Z h38 pa0 "java/lang/String" "value" "[B" .null := f39.other Wh38 (Or.inr (slot_ne (a0 := a0) (C := "java/lang/String") (t := (.array .byte)) (t' := .byte) (Or.inr (w22 hw)) (Or.inr (w23 hw)) (by decide) (by decide) (by decide)))
  refine Ow.aloadN (pc' := 52) B e3_51 ?_
  refine Ow.aload (pc' := 54) B e3_52 ?_
  have f42 := f37.keep Kh38
  refine Ow.putfield (pc' := 57) (ty := (.array .byte)) B e3_54 (w26 hw) Via.refl f41 f42 (Or.inr ⟨(w22 hw), rfl, rfl⟩) (w7 hw) (Or.inl (by simp)) ?_
  intro h43 Wh43
  have Kh43 := Keep.of_wr Wh43
  have zh43 := Kh43.1
  have f44 : Fld Z h43 pa0 "java/lang/String" "value" "[B" (.ref r27) := f41.same Wh43
  have f45 : Fld Z h43 pa0 "java/lang/String" "coder" "B" (.int 1) := f40.other Wh43 (Or.inr (slot_ne (a0 := a0) (C := "java/lang/String") (t := .byte) (t' := (.array .byte)) (Or.inr (w23 hw)) (Or.inr (w22 hw)) (by decide) (by decide) (by decide)))
  have f46 := f42.keep Kh43
  have f47 := f31.keep Kh38 (Ow.ninS (by omega) Ow.nin0)
  have f48 := f47.keep Kh43 (Ow.ninS (by omega) Ow.nin0)
  have s49 : Ow.Chs Z h43 pa0 r27 k28 [px0, px1, px2, px3] := ⟨f46, f44, (Ow.allI ⟨(hk0), (hk1)⟩ (Ow.allI ⟨(hk2), (hk3)⟩ (Ow.allI ⟨(hk4), (hk5)⟩ (Ow.allI ⟨(hk6), (hk7)⟩ Ow.allI0)))), Or.inr ⟨f45, f48, px1, by simp, c30⟩⟩
  exact Ow.retV (S' := []) B e3_57 (⟨r27, k28, rfl, ((((Keep.refl _ [pa0]).trans Kh3 (fun _ q => nomatch q)).trans Kh38 (allS (Or.inl (by simp)) all0)).trans Kh43 (allS (Or.inl (by simp)) all0)), (by omega), s49, rfl⟩)
 ·obtain ⟨r50, k51, rfl, Kh3, c52, c53, c54, br50, f55, rfl⟩ := q2
  have lr50 : (r50 : Nat) < h3.size := f55.lt
  refine Ow.Go.norm (S' := [r50, pa0]) (st' := [(.ref r50)]) (fun _ q => q) rfl ?_
  refine Ow.astore (pc' := 41) (Ls' := #[.val (.ref pa0), .val (.ref pa1), .val (.int 0), .val (.int 4), .val .null, .val (.ref r50)]) B e3_39 ?_
  refine Ow.aloadN (pc' := 42) B e3_41 ?_
  refine Ow.aload (pc' := 44) B e3_42 ?_
  refine Ow.iloadN (pc' := 45) B e3_44 ?_
  refine Ow.Go.old (fun o56 => ?_)
  refine Ow.callStatic (pc' := 48) (W := 1) (k' := 2) (n' := 12) (argsL := [(.ref r50), (.int 4)]) (rest := [(.ref pa0)]) B e3_45 (w45 hw) (w46 hw) (w40 hw) (w47 hw) (con_coderFromArrayLen_127 hw G GS (pa0 := r50) (px0 := px0) (px1 := px1) (px2 := px2) (px3 := px3) (pk0 := k51) o56 f55 (by omega) hc_px0 hc_px1 hc_px2 hc_px3) pd11 ?_
  intro vq57 h58 S59 q57 zh58
  obtain ⟨rfl, rfl, rfl⟩ := q57
  refine Ow.Go.nr (S' := [r50, pa0]) (st' := [(.int 1), (.ref pa0)]) ?_
  have f60 := hf1.keep Kh3 Ow.nin0
  have f61 := hf0.keep Kh3
  refine Ow.putfield (pc' := 51) (ty := .byte) B e3_48 (w27 hw) Via.refl f60 f61 (Or.inr ⟨(w23 hw), rfl, rfl⟩) (w7 hw) (Or.inl (by simp)) ?_
  intro h62 Wh62
  have f63 := hf2.keep Kh3 Ow.nin0
  have Kh62 := Keep.of_wr Wh62
  have zh62 := Kh62.1
  have f64 : Fld Z h62 pa0 "java/lang/String" "coder" "B" (.int 1) := f60.same Wh62
  have f65 : Fld Z h62 pa0 "java/lang/String" "value" "[B" .null := f63.other Wh62 (Or.inr (slot_ne (a0 := a0) (C := "java/lang/String") (t := (.array .byte)) (t' := .byte) (Or.inr (w22 hw)) (Or.inr (w23 hw)) (by decide) (by decide) (by decide)))
  refine Ow.aloadN (pc' := 52) B e3_51 ?_
  refine Ow.aload (pc' := 54) B e3_52 ?_
  have f66 := f61.keep Kh62
  refine Ow.putfield (pc' := 57) (ty := (.array .byte)) B e3_54 (w26 hw) Via.refl f65 f66 (Or.inr ⟨(w22 hw), rfl, rfl⟩) (w7 hw) (Or.inl (by simp)) ?_
  intro h67 Wh67
  have Kh67 := Keep.of_wr Wh67
  have zh67 := Kh67.1
  have f68 : Fld Z h67 pa0 "java/lang/String" "value" "[B" (.ref r50) := f65.same Wh67
  have f69 : Fld Z h67 pa0 "java/lang/String" "coder" "B" (.int 1) := f64.other Wh67 (Or.inr (slot_ne (a0 := a0) (C := "java/lang/String") (t := .byte) (t' := (.array .byte)) (Or.inr (w23 hw)) (Or.inr (w22 hw)) (by decide) (by decide) (by decide)))
  have f70 := f66.keep Kh67
  have f71 := f55.keep Kh62 (Ow.ninS (by omega) Ow.nin0)
  have f72 := f71.keep Kh67 (Ow.ninS (by omega) Ow.nin0)
  have s73 : Ow.Chs Z h67 pa0 r50 k51 [px0, px1, px2, px3] := ⟨f70, f68, (Ow.allI ⟨(hk0), (hk1)⟩ (Ow.allI ⟨(hk2), (hk3)⟩ (Ow.allI ⟨(hk4), (hk5)⟩ (Ow.allI ⟨(hk6), (hk7)⟩ Ow.allI0)))), Or.inr ⟨f69, f72, px2, by simp, c54⟩⟩
  exact Ow.retV (S' := []) B e3_57 (⟨r50, k51, rfl, ((((Keep.refl _ [pa0]).trans Kh3 (fun _ q => nomatch q)).trans Kh62 (allS (Or.inl (by simp)) all0)).trans Kh67 (allS (Or.inl (by simp)) all0)), (by omega), s73, rfl⟩)
 ·obtain ⟨r74, k75, rfl, Kh3, c76, c77, c78, c79, br74, f80, rfl⟩ := q2
  have lr74 : (r74 : Nat) < h3.size := f80.lt
  refine Ow.Go.norm (S' := [r74, pa0]) (st' := [(.ref r74)]) (fun _ q => q) rfl ?_
  refine Ow.astore (pc' := 41) (Ls' := #[.val (.ref pa0), .val (.ref pa1), .val (.int 0), .val (.int 4), .val .null, .val (.ref r74)]) B e3_39 ?_
  refine Ow.aloadN (pc' := 42) B e3_41 ?_
  refine Ow.aload (pc' := 44) B e3_42 ?_
  refine Ow.iloadN (pc' := 45) B e3_44 ?_
  refine Ow.Go.old (fun o81 => ?_)
  refine Ow.callStatic (pc' := 48) (W := 1) (k' := 2) (n' := 12) (argsL := [(.ref r74), (.int 4)]) (rest := [(.ref pa0)]) B e3_45 (w45 hw) (w46 hw) (w40 hw) (w47 hw) (con_coderFromArrayLen_127 hw G GS (pa0 := r74) (px0 := px0) (px1 := px1) (px2 := px2) (px3 := px3) (pk0 := k75) o81 f80 (by omega) hc_px0 hc_px1 hc_px2 hc_px3) pd11 ?_
  intro vq82 h83 S84 q82 zh83
  obtain ⟨rfl, rfl, rfl⟩ := q82
  refine Ow.Go.nr (S' := [r74, pa0]) (st' := [(.int 1), (.ref pa0)]) ?_
  have f85 := hf1.keep Kh3 Ow.nin0
  have f86 := hf0.keep Kh3
  refine Ow.putfield (pc' := 51) (ty := .byte) B e3_48 (w27 hw) Via.refl f85 f86 (Or.inr ⟨(w23 hw), rfl, rfl⟩) (w7 hw) (Or.inl (by simp)) ?_
  intro h87 Wh87
  have f88 := hf2.keep Kh3 Ow.nin0
  have Kh87 := Keep.of_wr Wh87
  have zh87 := Kh87.1
  have f89 : Fld Z h87 pa0 "java/lang/String" "coder" "B" (.int 1) := f85.same Wh87
  have f90 : Fld Z h87 pa0 "java/lang/String" "value" "[B" .null := f88.other Wh87 (Or.inr (slot_ne (a0 := a0) (C := "java/lang/String") (t := (.array .byte)) (t' := .byte) (Or.inr (w22 hw)) (Or.inr (w23 hw)) (by decide) (by decide) (by decide)))
  refine Ow.aloadN (pc' := 52) B e3_51 ?_
  refine Ow.aload (pc' := 54) B e3_52 ?_
  have f91 := f86.keep Kh87
  refine Ow.putfield (pc' := 57) (ty := (.array .byte)) B e3_54 (w26 hw) Via.refl f90 f91 (Or.inr ⟨(w22 hw), rfl, rfl⟩) (w7 hw) (Or.inl (by simp)) ?_
  intro h92 Wh92
  have Kh92 := Keep.of_wr Wh92
  have zh92 := Kh92.1
  have f93 : Fld Z h92 pa0 "java/lang/String" "value" "[B" (.ref r74) := f90.same Wh92
  have f94 : Fld Z h92 pa0 "java/lang/String" "coder" "B" (.int 1) := f89.other Wh92 (Or.inr (slot_ne (a0 := a0) (C := "java/lang/String") (t := .byte) (t' := (.array .byte)) (Or.inr (w23 hw)) (Or.inr (w22 hw)) (by decide) (by decide) (by decide)))
  have f95 := f91.keep Kh92
  have f96 := f80.keep Kh87 (Ow.ninS (by omega) Ow.nin0)
  have f97 := f96.keep Kh92 (Ow.ninS (by omega) Ow.nin0)
  have s98 : Ow.Chs Z h92 pa0 r74 k75 [px0, px1, px2, px3] := ⟨f95, f93, (Ow.allI ⟨(hk0), (hk1)⟩ (Ow.allI ⟨(hk2), (hk3)⟩ (Ow.allI ⟨(hk4), (hk5)⟩ (Ow.allI ⟨(hk6), (hk7)⟩ Ow.allI0)))), Or.inr ⟨f94, f97, px3, by simp, c79⟩⟩
  exact Ow.retV (S' := []) B e3_57 (⟨r74, k75, rfl, ((((Keep.refl _ [pa0]).trans Kh3 (fun _ q => nomatch q)).trans Kh87 (allS (Or.inl (by simp)) all0)).trans Kh92 (allS (Or.inl (by simp)) all0)), (by omega), s98, rfl⟩)
 ·obtain ⟨r99, k100, rfl, Kh3, c101, c102, c103, c104, br99, f105, rfl⟩ := q2
  have lr99 : (r99 : Nat) < h3.size := f105.lt
  refine Ow.Go.norm (S' := [r99, pa0]) (st' := [(.ref r99)]) (fun _ q => q) rfl ?_
  refine Ow.astore (pc' := 41) (Ls' := #[.val (.ref pa0), .val (.ref pa1), .val (.int 0), .val (.int 4), .val .null, .val (.ref r99)]) B e3_39 ?_
  refine Ow.aloadN (pc' := 42) B e3_41 ?_
  refine Ow.aload (pc' := 44) B e3_42 ?_
  refine Ow.iloadN (pc' := 45) B e3_44 ?_
  refine Ow.Go.old (fun o106 => ?_)
  refine Ow.callStatic (pc' := 48) (W := 1) (k' := 2) (n' := 12) (argsL := [(.ref r99), (.int 4)]) (rest := [(.ref pa0)]) B e3_45 (w45 hw) (w46 hw) (w40 hw) (w47 hw) (con_coderFromArrayLen_128 hw G GS (pa0 := r99) (px0 := px0) (px1 := px1) (px2 := px2) (px3 := px3) (pk0 := k100) o106 f105 (by omega) hc_px0 hc_px1 hc_px2 hc_px3) pd11 ?_
  intro vq107 h108 S109 q107 zh108
  obtain ⟨rfl, rfl, rfl⟩ := q107
  refine Ow.Go.nr (S' := [r99, pa0]) (st' := [(.int 0), (.ref pa0)]) ?_
  have f110 := hf1.keep Kh3 Ow.nin0
  have f111 := hf0.keep Kh3
  refine Ow.putfield (pc' := 51) (ty := .byte) B e3_48 (w27 hw) Via.refl f110 f111 (Or.inr ⟨(w23 hw), rfl, rfl⟩) (w7 hw) (Or.inl (by simp)) ?_
  intro h112 Wh112
  have f113 := hf2.keep Kh3 Ow.nin0
  have Kh112 := Keep.of_wr Wh112
  have zh112 := Kh112.1
  have f114 : Fld Z h112 pa0 "java/lang/String" "coder" "B" (.int 0) := f110.same Wh112
  have f115 : Fld Z h112 pa0 "java/lang/String" "value" "[B" .null := f113.other Wh112 (Or.inr (slot_ne (a0 := a0) (C := "java/lang/String") (t := (.array .byte)) (t' := .byte) (Or.inr (w22 hw)) (Or.inr (w23 hw)) (by decide) (by decide) (by decide)))
  refine Ow.aloadN (pc' := 52) B e3_51 ?_
  refine Ow.aload (pc' := 54) B e3_52 ?_
  have f116 := f111.keep Kh112
  refine Ow.putfield (pc' := 57) (ty := (.array .byte)) B e3_54 (w26 hw) Via.refl f115 f116 (Or.inr ⟨(w22 hw), rfl, rfl⟩) (w7 hw) (Or.inl (by simp)) ?_
  intro h117 Wh117
  have Kh117 := Keep.of_wr Wh117
  have zh117 := Kh117.1
  have f118 : Fld Z h117 pa0 "java/lang/String" "value" "[B" (.ref r99) := f115.same Wh117
  have f119 : Fld Z h117 pa0 "java/lang/String" "coder" "B" (.int 0) := f114.other Wh117 (Or.inr (slot_ne (a0 := a0) (C := "java/lang/String") (t := .byte) (t' := (.array .byte)) (Or.inr (w23 hw)) (Or.inr (w22 hw)) (by decide) (by decide) (by decide)))
  have f120 := f116.keep Kh117
  have f121 := f105.keep Kh112 (Ow.ninS (by omega) Ow.nin0)
  have f122 := f121.keep Kh117 (Ow.ninS (by omega) Ow.nin0)
  have s123 : Ow.Chs Z h117 pa0 r99 k100 [px0, px1, px2, px3] := ⟨f120, f118, (Ow.allI ⟨(hk0), (hk1)⟩ (Ow.allI ⟨(hk2), (hk3)⟩ (Ow.allI ⟨(hk4), (hk5)⟩ (Ow.allI ⟨(hk6), (hk7)⟩ Ow.allI0)))), Or.inl ⟨f119, f122, (Ow.allI (c101) (Ow.allI (c102) (Ow.allI (c103) (Ow.allI (c104) Ow.allI0))))⟩⟩
  exact Ow.retV (S' := []) B e3_57 (⟨r99, k100, rfl, ((((Keep.refl _ [pa0]).trans Kh3 (fun _ q => nomatch q)).trans Kh112 (allS (Or.inl (by simp)) all0)).trans Kh117 (allS (Or.inl (by simp)) all0)), (by omega), s123, rfl⟩)
set_option maxRecDepth 65536 in
set_option maxHeartbeats 40000000 in
theorem con_init_130 (hw : Hw a0 Z) (G : Ow.Glo Z cz sf) (GS : GlS Z) {pa0 : Nat} {pa1 : Nat} {px0 : Int32} {px1 : Int32} {px2 : Int32} {px3 : Int32} {pk0 : ClassId} {h0 : Heap} (O0 : Old Z n0 h0) (hf0 : Exa Z h0 pa0 "java/lang/String") (hf1 : Fld Z h0 pa0 "java/lang/String" "coder" "B" (.int 0)) (hf2 : Fld Z h0 pa0 "java/lang/String" "value" "[B" .null) (hf3 : Arv Z h0 pa1 pk0 .char (4 : Int32) [(.int px0), (.int px1), (.int px2), (.int px3)] (.int 0)) (hn0 : n0 ≤ pa0) (hn1 : n0 ≤ pa1) (hk0 : ¬ (px0 < (0 : Int32))) (hk1 : ¬ ((65535 : Int32) < px0)) (hk2 : ¬ (px1 < (0 : Int32))) (hk3 : ¬ ((65535 : Int32) < px1)) (hk4 : ¬ (px2 < (0 : Int32))) (hk5 : ¬ ((65535 : Int32) < px2)) (hk6 : ¬ (px3 < (0 : Int32))) (hk7 : ¬ ((65535 : Int32) < px3)) (hc_px0 : nar .char px0 = px0) (hc_px1 : nar .char px1 = px1) (hc_px2 : nar .char px2 = px2) (hc_px3 : nar .char px3 = px3) :
    Ow.Con l Z EL1 n0 my1 jdk_42_method_3_code 2 (Option.none : Option Jvm.ClassFile.FieldType) [] ({ frames := 5, cells := 2, slots := 12, locals := 74 } : Room) #[(.ref pa0), (.ref pa1)] [pa0] h0 (fun v h S' => (∃ r0 : Nat, ∃ k0 : ClassId, v = none ∧ Keep h0 h [pa0] ∧ h0.size ≤ r0 ∧ Ow.Chs Z h pa0 r0 k0 [px0, px1, px2, px3] ∧ S' = [])) := by
 refine Ow.Con.enter (Ls := #[.val (.ref pa0), .val (.ref pa1)]) (plainFor_of_name pn1) O0 (hEW hw) (hSA hw) ?_
 intro p e s m below meth c B
 have z0 := Ow.old_le O0
 have lpa0 : (pa0 : Nat) < h0.size := hf0.lt
 have lpa1 : (pa1 : Nat) < h0.size := hf3.lt
 refine Ow.aloadN (pc' := 1) B e2_0 ?_
 refine Ow.aloadN (pc' := 2) B e2_1 ?_
 refine Ow.iconst (pc' := 3) (x := 0) B e2_2 ?_
 refine Ow.aloadN (pc' := 4) B e2_3 ?_
 refine Ow.arrlen (pc' := 5) B e2_4 hf3 ?_
 refine Ow.aconstNull (pc' := 6) B e2_5 ?_
 refine Ow.Go.old (fun o1 => ?_)
 refine Ow.callInit (pc' := 9) (W := 0) (k' := 2) (n' := 12) (argsL := [(.ref pa1), (.int 0), (.int 4), .null]) (rest := []) B e2_6 (w13 hw) (w14 hw) (w8 hw) (w16 hw) (con_init_129 hw G GS (pa0 := pa0) (pa1 := pa1) (px0 := px0) (px1 := px1) (px2 := px2) (px3 := px3) (pk0 := pk0) o1 hf0 hf1 hf2 hf3 (by omega) (by omega) (hk0) (hk1) (hk2) (hk3) (hk4) (hk5) (hk6) (hk7) hc_px0 hc_px1 hc_px2 hc_px3) pd0 ?_
 intro vq2 h3 S4 q2 zh3
 obtain ⟨r5, k6, rfl, Kh3, br5, f7, rfl⟩ := q2
 have lr5 : (r5 : Nat) < h3.size := f7.ltt
 refine Ow.Go.nr (S' := [pa0]) (st' := []) ?_
 exact Ow.retV (S' := []) B e2_9 (⟨r5, k6, rfl, ((Keep.refl _ [pa0]).trans Kh3 (allS (Or.inl (by simp)) all0)), (by omega), f7, rfl⟩)
set_option maxRecDepth 65536 in
set_option maxHeartbeats 40000000 in
theorem con_make_131 (hw : Hw a0 Z) (G : Ow.Glo Z cz sf) (GS : GlS Z) {px0 : Int32} {px1 : Int32} {px2 : Int32} {px3 : Int32} {h0 : Heap} (O0 : Old Z n0 h0) (hk0 : ¬ (px0 < (0 : Int32))) (hk1 : ¬ ((65535 : Int32) < px0)) (hk2 : ¬ (px1 < (0 : Int32))) (hk3 : ¬ ((65535 : Int32) < px1)) (hk4 : ¬ (px2 < (0 : Int32))) (hk5 : ¬ ((65535 : Int32) < px2)) (hk6 : ¬ (px3 < (0 : Int32))) (hk7 : ¬ ((65535 : Int32) < px3)) (hc_px0 : nar .char px0 = px0) (hc_px1 : nar .char px1 = px1) (hc_px2 : nar .char px2 = px2) (hc_px3 : nar .char px3 = px3) :
    Ow.Con l Z EL1 n0 my2 method_4_code 6 (Option.some (Jvm.ClassFile.FieldType.object "java/lang/String")) [] ({ frames := 6, cells := 4, slots := 20, locals := 88 } : Room) #[(.int 4), (.int px0), (.int px1), (.int px2), (.int px3)] [] h0 (fun v h S' => (∃ r0 : Nat, ∃ r1 : Nat, ∃ k0 : ClassId, v = some (.ref r0) ∧ Keep h0 h [] ∧ h0.size ≤ r0 ∧ h0.size ≤ r1 ∧ r1 ≠ r0 ∧ Ow.Chs Z h r0 r1 k0 [px0, px1, px2, px3] ∧ S' = [])) := by
 refine Ow.Con.enter (Ls := #[.val (.int 4), .val (.int px0), .val (.int px1), .val (.int px2), .val (.int px3), .unset]) (plainFor_of_name pn0) O0 (hEW hw) (hSA hw) ?_
 intro p e s m below meth c B
 have z0 := Ow.old_le O0
 refine Ow.iloadN (pc' := 1) B e1_0 ?_
 refine Ow.ifT (pc' := 15) B e1_1 (by decide) ?_
 refine Ow.iloadN (pc' := 16) B e1_15 ?_
 refine Ow.iconst (pc' := 17) (x := 1) B e1_16 ?_
 refine Ow.icmpT (pc' := 40) B e1_17 (by decide) ?_
 refine Ow.iloadN (pc' := 41) B e1_40 ?_
 refine Ow.iconst (pc' := 42) (x := 2) B e1_41 ?_
 refine Ow.icmpT (pc' := 70) B e1_42 (by decide) ?_
 refine Ow.iloadN (pc' := 71) B e1_70 ?_
 refine Ow.iconst (pc' := 72) (x := 3) B e1_71 ?_
 refine Ow.icmpT (pc' := 105) B e1_72 (by decide) ?_
 refine Ow.iconst (pc' := 106) (x := 4) B e1_105 ?_
 refine Ow.newArr (pc' := 108) (k' := 1) (n' := 4) (cap := 4) B e1_106 (w9 hw) (by decide) (by decide) ?_
 intro h2 a1 ka1 ga1 ba1 Kh2 V0a1
 have zh2 := Kh2.1
 have la1 : (a1 : Nat) < h2.size := V0a1.lt
 have Va1 : Arv Z h2 a1 ka1 .char (4 : Int32) [(.int 0), (.int 0), (.int 0), (.int 0)] (.int 0) := V0a1.pad (pad_rep [] (.int 0) 4)
 refine Ow.astore (pc' := 110) (Ls' := #[.val (.int 4), .val (.int px0), .val (.int px1), .val (.int px2), .val (.int px3), .val (.ref a1)]) B e1_108 ?_
 refine Ow.aload (pc' := 112) B e1_110 ?_
 refine Ow.iconst (pc' := 113) (x := 0) B e1_112 ?_
 refine Ow.iloadN (pc' := 114) B e1_113 ?_
 refine Ow.castore (pc' := 115) (i := 0) B e1_114 Va1 ⟨by decide, by decide⟩ ?_
 intro h3 Kh3 V0h3
 have zh3 := Kh3.1
 have V4 : Arv Z h3 a1 ka1 .char (4 : Int32) [(.int px0), (.int 0), (.int 0), (.int 0)] (.int 0) := (by have e0 := V0h3; rw [show nar .char px0 = px0 from hc_px0] at e0; exact e0)
 refine Ow.aload (pc' := 117) B e1_115 ?_
 refine Ow.iconst (pc' := 118) (x := 1) B e1_117 ?_
 refine Ow.iloadN (pc' := 119) B e1_118 ?_
 refine Ow.castore (pc' := 120) (i := 1) B e1_119 V4 ⟨by decide, by decide⟩ ?_
 intro h5 Kh5 V0h5
 have zh5 := Kh5.1
 have V6 : Arv Z h5 a1 ka1 .char (4 : Int32) [(.int px0), (.int px1), (.int 0), (.int 0)] (.int 0) := (by have e0 := V0h5; rw [show nar .char px1 = px1 from hc_px1] at e0; exact e0)
 refine Ow.aload (pc' := 122) B e1_120 ?_
 refine Ow.iconst (pc' := 123) (x := 2) B e1_122 ?_
 refine Ow.iloadN (pc' := 124) B e1_123 ?_
 refine Ow.castore (pc' := 125) (i := 2) B e1_124 V6 ⟨by decide, by decide⟩ ?_
 intro h7 Kh7 V0h7
 have zh7 := Kh7.1
 have V8 : Arv Z h7 a1 ka1 .char (4 : Int32) [(.int px0), (.int px1), (.int px2), (.int 0)] (.int 0) := (by have e0 := V0h7; rw [show nar .char px2 = px2 from hc_px2] at e0; exact e0)
 refine Ow.aload (pc' := 127) B e1_125 ?_
 refine Ow.iconst (pc' := 128) (x := 3) B e1_127 ?_
 refine Ow.iload (pc' := 130) B e1_128 ?_
 refine Ow.castore (pc' := 131) (i := 3) B e1_130 V8 ⟨by decide, by decide⟩ ?_
 intro h9 Kh9 V0h9
 have zh9 := Kh9.1
 have V10 : Arv Z h9 a1 ka1 .char (4 : Int32) [(.int px0), (.int px1), (.int px2), (.int px3)] (.int 0) := (by have e0 := V0h9; rw [show nar .char px3 = px3 from hc_px3] at e0; exact e0)
 refine Ow.newObj (pc' := 134) (k' := 2) (n' := 8) B e1_131 (w6 hw) (w7 hw) (w8 hw) ?_
 intro h12 a11 ga11 ba11 Kh12 Aa11 Da11
 have zh12 := Kh12.1
 have la11 : (a11 : Nat) < h12.size := Aa11.lt
 have f13 : Fld Z h12 a11 "java/lang/String" "value" "[B" .null := Da11 (Or.inr (w22 hw)) (ty := (.array .byte)) (by decide)
 have f14 : Fld Z h12 a11 "java/lang/String" "coder" "B" (.int 0) := Da11 (Or.inr (w23 hw)) (ty := .byte) (by decide)
 refine Ow.dup (pc' := 135) B e1_134 ?_
 refine Ow.aload (pc' := 137) B e1_135 ?_
 refine Ow.Go.old (fun o15 => ?_)
 have f16 := V10.keep Kh12 Ow.nin0
 refine Ow.callInit (pc' := 140) (W := 1) (k' := 4) (n' := 20) (argsL := [(.ref a1)]) (rest := [(.ref a11)]) B e1_137 (w10 hw) (w11 hw) (w8 hw) (w12 hw) (con_init_130 hw G GS (pa0 := a11) (pa1 := a1) (px0 := px0) (px1 := px1) (px2 := px2) (px3 := px3) (pk0 := ka1) o15 Aa11 f14 f13 f16 (by omega) (by omega) (hk0) (hk1) (hk2) (hk3) (hk4) (hk5) (hk6) (hk7) hc_px0 hc_px1 hc_px2 hc_px3) pd1 ?_
 intro vq17 h18 S19 q17 zh18
 obtain ⟨r20, k21, rfl, Kh18, br20, f22, rfl⟩ := q17
 have lr20 : (r20 : Nat) < h18.size := f22.ltt
 refine Ow.Go.nr (S' := [a11, a1]) (st' := [(.ref a11)]) ?_
 exact Ow.retA (S' := []) (t := (.object "java/lang/String")) B e1_140 (⟨a11, r20, k21, rfl, ((((((((Keep.refl _ []).trans Kh2 (fun _ q => nomatch q)).trans Kh3 (allS (Or.inr (by omega)) all0)).trans Kh5 (allS (Or.inr (by omega)) all0)).trans Kh7 (allS (Or.inr (by omega)) all0)).trans Kh9 (allS (Or.inr (by omega)) all0)).trans Kh12 (fun _ q => nomatch q)).trans Kh18 (allS (Or.inr (by omega)) all0)), (by omega), (by omega), (by omega), f22, rfl⟩)
set_option maxRecDepth 65536 in
set_option maxHeartbeats 40000000 in
theorem con_isEmpty_132 (hw : Hw a0 Z) (G : Ow.Glo Z cz sf) (GS : GlS Z) {pa0 : Nat} {pa1 : Nat} {px0 : Int32} {px1 : Int32} {px2 : Int32} {px3 : Int32} {pk0 : ClassId} {h0 : Heap} (O0 : Old Z n0 h0) (hf0 : Ow.Chs Z h0 pa0 pa1 pk0 [px0, px1, px2, px3]) (hn0 : n0 ≤ pa0) (hn1 : n0 ≤ pa1) (hc_px0 : nar .char px0 = px0) (hc_px1 : nar .char px1 = px1) (hc_px2 : nar .char px2 = px2) (hc_px3 : nar .char px3 = px3) :
    Ow.Con l Z EL1 n0 my3 jdk_42_method_55_code 1 (Option.some Jvm.ClassFile.FieldType.boolean) [] ({ frames := 0, cells := 0, slots := 0, locals := 0 } : Room) #[(.ref pa0)] [] h0 (fun v h S' => (v = some (.int 0) ∧ h = h0 ∧ S' = [])) := by
 rcases hf0.2.2.2 with ⟨oc_hf0, oa_hf0, ol_hf0⟩ | ⟨oc_hf0, oa_hf0, ou_hf0⟩
 ·refine Ow.Con.enter (Ls := #[.val (.ref pa0)]) (plainFor_of_name pn1) O0 (hEW hw) (hSA hw) ?_
  intro p e s m below meth c B
  have z0 := Ow.old_le O0
  have oE_hf0 := hf0.1
  have oV_hf0 := hf0.2.1
  have oR_hf0 := hf0.2.2.1
  have oA_hf0 : Arv Z h0 pa1 pk0 .byte (4 : Int32) [(.int px0.toInt8.toInt32), (.int px1.toInt8.toInt32), (.int px2.toInt8.toInt32), (.int px3.toInt8.toInt32)] (.int 0) := oa_hf0
  have lpa0 : (pa0 : Nat) < h0.size := hf0.lt
  have lpa1 : (pa1 : Nat) < h0.size := oA_hf0.lt
  have lpa1 : (pa1 : Nat) < h0.size := hf0.ltt
  refine Ow.aloadN (pc' := 1) B e4_0 ?_
  refine Ow.getfield (pc' := 4) B e4_1 (w26 hw) Via.refl oV_hf0 ?_
  refine Ow.arrlen (pc' := 5) B e4_4 oA_hf0 ?_
  refine Ow.ifT (pc' := 12) B e4_5 (by decide) ?_
  refine Ow.iconst (pc' := 13) (x := 0) B e4_12 ?_
  exact Ow.retI (S' := []) (t := .boolean) B e4_13 (⟨rfl, rfl, rfl⟩)
 ·refine Ow.Con.enter (Ls := #[.val (.ref pa0)]) (plainFor_of_name pn1) O0 (hEW hw) (hSA hw) ?_
  intro p e s m below meth c B
  have z0 := Ow.old_le O0
  have oE_hf0 := hf0.1
  have oV_hf0 := hf0.2.1
  have oR_hf0 := hf0.2.2.1
  have oA_hf0 : Arv Z h0 pa1 pk0 .byte (8 : Int32) [(.int px0.toInt8.toInt32), (.int (px0 >>> ((8 : Int32) &&& 31)).toInt8.toInt32), (.int px1.toInt8.toInt32), (.int (px1 >>> ((8 : Int32) &&& 31)).toInt8.toInt32), (.int px2.toInt8.toInt32), (.int (px2 >>> ((8 : Int32) &&& 31)).toInt8.toInt32), (.int px3.toInt8.toInt32), (.int (px3 >>> ((8 : Int32) &&& 31)).toInt8.toInt32)] (.int 0) := oa_hf0
  have lpa0 : (pa0 : Nat) < h0.size := hf0.lt
  have lpa1 : (pa1 : Nat) < h0.size := oA_hf0.lt
  have lpa1 : (pa1 : Nat) < h0.size := hf0.ltt
  refine Ow.aloadN (pc' := 1) B e4_0 ?_
  refine Ow.getfield (pc' := 4) B e4_1 (w26 hw) Via.refl oV_hf0 ?_
  refine Ow.arrlen (pc' := 5) B e4_4 oA_hf0 ?_
  refine Ow.ifT (pc' := 12) B e4_5 (by decide) ?_
  refine Ow.iconst (pc' := 13) (x := 0) B e4_12 ?_
  exact Ow.retI (S' := []) (t := .boolean) B e4_13 (⟨rfl, rfl, rfl⟩)
set_option maxRecDepth 65536 in
set_option maxHeartbeats 40000000 in
theorem con_length_133 (hw : Hw a0 Z) (G : Ow.Glo Z cz sf) (GS : GlS Z) {pa0 : Nat} {pa1 : Nat} {px0 : Int32} {px1 : Int32} {px2 : Int32} {px3 : Int32} {pk0 : ClassId} {h0 : Heap} (O0 : Old Z n0 h0) (hf0 : Ow.Chs Z h0 pa0 pa1 pk0 [px0, px1, px2, px3]) (hn0 : n0 ≤ pa0) (hn1 : n0 ≤ pa1) (hc_px0 : nar .char px0 = px0) (hc_px1 : nar .char px1 = px1) (hc_px2 : nar .char px2 = px2) (hc_px3 : nar .char px3 = px3) :
    Ow.Con l Z EL1 n0 my16 jdk_42_method_54_code 1 (Option.some Jvm.ClassFile.FieldType.int) [] ({ frames := 1, cells := 0, slots := 0, locals := 13 } : Room) #[(.ref pa0)] [] h0 (fun v h S' => (v = some (.int 4) ∧ h = h0 ∧ S' = [])) := by
 rcases hf0.2.2.2 with ⟨oc_hf0, oa_hf0, ol_hf0⟩ | ⟨oc_hf0, oa_hf0, ou_hf0⟩
 ·refine Ow.Con.enter (Ls := #[.val (.ref pa0)]) (plainFor_of_name pn1) O0 (hEW hw) (hSA hw) ?_
  intro p e s m below meth c B
  have z0 := Ow.old_le O0
  have oE_hf0 := hf0.1
  have oV_hf0 := hf0.2.1
  have oR_hf0 := hf0.2.2.1
  have oA_hf0 : Arv Z h0 pa1 pk0 .byte (4 : Int32) [(.int px0.toInt8.toInt32), (.int px1.toInt8.toInt32), (.int px2.toInt8.toInt32), (.int px3.toInt8.toInt32)] (.int 0) := oa_hf0
  have lpa0 : (pa0 : Nat) < h0.size := hf0.lt
  have lpa1 : (pa1 : Nat) < h0.size := oA_hf0.lt
  have lpa1 : (pa1 : Nat) < h0.size := hf0.ltt
  refine Ow.aloadN (pc' := 1) B e15_0 ?_
  refine Ow.getfield (pc' := 4) B e15_1 (w26 hw) Via.refl oV_hf0 ?_
  refine Ow.arrlen (pc' := 5) B e15_4 oA_hf0 ?_
  refine Ow.aloadN (pc' := 6) B e15_5 ?_
  refine Ow.Go.old (fun o1 => ?_)
  refine Ow.callVirtual (pc' := 9) (W := 1) (k' := 0) (n' := 0) (argsL := []) (rest := [(.int 4)]) (K := "java/lang/String") B e15_6 (w56 hw) (w57 hw) (w59 hw) (w59 hw) (w58 hw) (w8 hw) (w60 hw) oE_hf0 (con_coder_21 hw G GS (pa0 := pa0) o1 oc_hf0 (by omega)) pd13 ?_
  intro vq2 h3 S4 q2 zh3
  obtain ⟨rfl, rfl, rfl⟩ := q2
  refine Ow.Go.nr (S' := []) (st' := [(.int 0), (.int 4)]) ?_
  refine Ow.ishr (pc' := 10) (z := 4) B e15_9 ?_
  exact Ow.retI (S' := []) (t := .int) B e15_10 (⟨rfl, rfl, rfl⟩)
 ·refine Ow.Con.enter (Ls := #[.val (.ref pa0)]) (plainFor_of_name pn1) O0 (hEW hw) (hSA hw) ?_
  intro p e s m below meth c B
  have z0 := Ow.old_le O0
  have oE_hf0 := hf0.1
  have oV_hf0 := hf0.2.1
  have oR_hf0 := hf0.2.2.1
  have oA_hf0 : Arv Z h0 pa1 pk0 .byte (8 : Int32) [(.int px0.toInt8.toInt32), (.int (px0 >>> ((8 : Int32) &&& 31)).toInt8.toInt32), (.int px1.toInt8.toInt32), (.int (px1 >>> ((8 : Int32) &&& 31)).toInt8.toInt32), (.int px2.toInt8.toInt32), (.int (px2 >>> ((8 : Int32) &&& 31)).toInt8.toInt32), (.int px3.toInt8.toInt32), (.int (px3 >>> ((8 : Int32) &&& 31)).toInt8.toInt32)] (.int 0) := oa_hf0
  have lpa0 : (pa0 : Nat) < h0.size := hf0.lt
  have lpa1 : (pa1 : Nat) < h0.size := oA_hf0.lt
  have lpa1 : (pa1 : Nat) < h0.size := hf0.ltt
  refine Ow.aloadN (pc' := 1) B e15_0 ?_
  refine Ow.getfield (pc' := 4) B e15_1 (w26 hw) Via.refl oV_hf0 ?_
  refine Ow.arrlen (pc' := 5) B e15_4 oA_hf0 ?_
  refine Ow.aloadN (pc' := 6) B e15_5 ?_
  refine Ow.Go.old (fun o1 => ?_)
  refine Ow.callVirtual (pc' := 9) (W := 1) (k' := 0) (n' := 0) (argsL := []) (rest := [(.int 8)]) (K := "java/lang/String") B e15_6 (w56 hw) (w57 hw) (w59 hw) (w59 hw) (w58 hw) (w8 hw) (w60 hw) oE_hf0 (con_coder_22 hw G GS (pa0 := pa0) o1 oc_hf0 (by omega)) pd13 ?_
  intro vq2 h3 S4 q2 zh3
  obtain ⟨rfl, rfl, rfl⟩ := q2
  refine Ow.Go.nr (S' := []) (st' := [(.int 1), (.int 8)]) ?_
  refine Ow.ishr (pc' := 10) (z := 4) B e15_9 ?_
  exact Ow.retI (S' := []) (t := .int) B e15_10 (⟨rfl, rfl, rfl⟩)
set_option maxRecDepth 65536 in
set_option maxHeartbeats 40000000 in
theorem con_charAt_134 (hw : Hw a0 Z) (G : Ow.Glo Z cz sf) (GS : GlS Z) {pa0 : Nat} {px0 : Int32} {px1 : Int32} {px2 : Int32} {px3 : Int32} {pk0 : ClassId} {h0 : Heap} (O0 : Old Z n0 h0) (hf0 : Arv Z h0 pa0 pk0 .byte (4 : Int32) [(.int px0.toInt8.toInt32), (.int px1.toInt8.toInt32), (.int px2.toInt8.toInt32), (.int px3.toInt8.toInt32)] (.int 0)) (hn0 : n0 ≤ pa0) (hk0 : ¬ (px0 < (0 : Int32))) (hk1 : ¬ ((255 : Int32) < px0)) (hc_px0 : nar .char px0 = px0) (hc_px1 : nar .char px1 = px1) (hc_px2 : nar .char px2 = px2) (hc_px3 : nar .char px3 = px3) :
    Ow.Con l Z EL1 n0 my20 jdk_43_method_2_code 2 (Option.some Jvm.ClassFile.FieldType.char) [] ({ frames := 2, cells := 0, slots := 0, locals := 27 } : Room) #[(.ref pa0), (.int 0)] [] h0 (fun v h S' => (v = some (.int px0) ∧ h = h0 ∧ S' = [])) := by
 refine Ow.Con.enter (Ls := #[.val (.ref pa0), .val (.int 0)]) (plainFor_of_name pn4) O0 (hEW hw) (hSA hw) ?_
 intro p e s m below meth c B
 have z0 := Ow.old_le O0
 have lpa0 : (pa0 : Nat) < h0.size := hf0.lt
 refine Ow.iloadN (pc' := 1) B e19_0 ?_
 refine Ow.aloadN (pc' := 2) B e19_1 ?_
 refine Ow.arrlen (pc' := 3) B e19_2 hf0 ?_
 refine Ow.Go.old (fun o1 => ?_)
 refine Ow.callStatic (pc' := 6) (W := 0) (k' := 0) (n' := 0) (argsL := [(.int 0), (.int 4)]) (rest := []) B e19_3 (w75 hw) (w76 hw) (w8 hw) (w77 hw) (con_checkIndex_26 hw G GS (px0 := (0 : Int32)) (px1 := (4 : Int32)) o1 (by decide) (by decide)) pd16 ?_
 intro vq2 h3 S4 q2 zh3
 obtain ⟨rfl, rfl, rfl⟩ := q2
 refine Ow.Go.nr (S' := []) (st' := []) ?_
 refine Ow.aloadN (pc' := 7) B e19_6 ?_
 refine Ow.iloadN (pc' := 8) B e19_7 ?_
 refine Ow.baload (pc' := 9) B e19_8 hf0 ⟨by decide, by decide⟩ rfl ?_
 refine Ow.sipush (pc' := 12) (x := 255) B e19_9 ?_
 refine Ow.iand (pc' := 13) (z := px0) (hz := (Ow.b255 (hk0) (hk1))) B e19_12 ?_
 refine Ow.i2c (pc' := 14) (z := px0) (hz := (Ow.c_id (hk0) (hk1))) B e19_13 ?_
 exact Ow.retI (S' := []) (t := .char) (hnn := (Ow.cnarrow (Ow.nar_id (hk0) (hk1)))) B e19_14 (⟨rfl, rfl, rfl⟩)
set_option maxRecDepth 65536 in
set_option maxHeartbeats 40000000 in
theorem con_length_135 (hw : Hw a0 Z) (G : Ow.Glo Z cz sf) (GS : GlS Z) {pa0 : Nat} {px0 : Int32} {px1 : Int32} {px2 : Int32} {px3 : Int32} {pk0 : ClassId} {h0 : Heap} (O0 : Old Z n0 h0) (hf0 : Arv Z h0 pa0 pk0 .byte (8 : Int32) [(.int px0.toInt8.toInt32), (.int (px0 >>> ((8 : Int32) &&& 31)).toInt8.toInt32), (.int px1.toInt8.toInt32), (.int (px1 >>> ((8 : Int32) &&& 31)).toInt8.toInt32), (.int px2.toInt8.toInt32), (.int (px2 >>> ((8 : Int32) &&& 31)).toInt8.toInt32), (.int px3.toInt8.toInt32), (.int (px3 >>> ((8 : Int32) &&& 31)).toInt8.toInt32)] (.int 0)) (hn0 : n0 ≤ pa0) (hc_px0 : nar .char px0 = px0) (hc_px1 : nar .char px1 = px1) (hc_px2 : nar .char px2 = px2) (hc_px3 : nar .char px3 = px3) :
    Ow.Con l Z EL1 n0 my21 jdk_52_method_6_code 1 (Option.some Jvm.ClassFile.FieldType.int) [] ({ frames := 0, cells := 0, slots := 0, locals := 0 } : Room) #[(.ref pa0)] [] h0 (fun v h S' => (v = some (.int 4) ∧ h = h0 ∧ S' = [])) := by
 refine Ow.Con.enter (Ls := #[.val (.ref pa0)]) (plainFor_of_name pn3) O0 (hEW hw) (hSA hw) ?_
 intro p e s m below meth c B
 have z0 := Ow.old_le O0
 have lpa0 : (pa0 : Nat) < h0.size := hf0.lt
 refine Ow.aloadN (pc' := 1) B e24_0 ?_
 refine Ow.arrlen (pc' := 2) B e24_1 hf0 ?_
 refine Ow.iconst (pc' := 3) (x := 1) B e24_2 ?_
 refine Ow.ishr (pc' := 4) (z := 4) B e24_3 ?_
 exact Ow.retI (S' := []) (t := .int) B e24_4 (⟨rfl, rfl, rfl⟩)
set_option maxRecDepth 65536 in
set_option maxHeartbeats 40000000 in
theorem con_checkIndex_136 (hw : Hw a0 Z) (G : Ow.Glo Z cz sf) (GS : GlS Z) {pa0 : Nat} {px0 : Int32} {px1 : Int32} {px2 : Int32} {px3 : Int32} {pk0 : ClassId} {h0 : Heap} (O0 : Old Z n0 h0) (hf0 : Arv Z h0 pa0 pk0 .byte (8 : Int32) [(.int px0.toInt8.toInt32), (.int (px0 >>> ((8 : Int32) &&& 31)).toInt8.toInt32), (.int px1.toInt8.toInt32), (.int (px1 >>> ((8 : Int32) &&& 31)).toInt8.toInt32), (.int px2.toInt8.toInt32), (.int (px2 >>> ((8 : Int32) &&& 31)).toInt8.toInt32), (.int px3.toInt8.toInt32), (.int (px3 >>> ((8 : Int32) &&& 31)).toInt8.toInt32)] (.int 0)) (hn0 : n0 ≤ pa0) (hc_px0 : nar .char px0 = px0) (hc_px1 : nar .char px1 = px1) (hc_px2 : nar .char px2 = px2) (hc_px3 : nar .char px3 = px3) :
    Ow.Con l Z EL1 n0 my22 jdk_52_method_91_code 2 (Option.none : Option Jvm.ClassFile.FieldType) [] ({ frames := 2, cells := 0, slots := 0, locals := 27 } : Room) #[(.int 0), (.ref pa0)] [] h0 (fun v h S' => (v = none ∧ h = h0 ∧ S' = [])) := by
 refine Ow.Con.enter (Ls := #[.val (.int 0), .val (.ref pa0)]) (plainFor_of_name pn3) O0 (hEW hw) (hSA hw) ?_
 intro p e s m below meth c B
 have z0 := Ow.old_le O0
 have lpa0 : (pa0 : Nat) < h0.size := hf0.lt
 refine Ow.iloadN (pc' := 1) B e23_0 ?_
 refine Ow.aloadN (pc' := 2) B e23_1 ?_
 refine Ow.Go.old (fun o1 => ?_)
 refine Ow.callStatic (pc' := 5) (W := 1) (k' := 0) (n' := 0) (argsL := [(.ref pa0)]) (rest := [(.int 0)]) B e23_2 (w139 hw) (w140 hw) (w40 hw) (w141 hw) (con_length_135 hw G GS (pa0 := pa0) (px0 := px0) (px1 := px1) (px2 := px2) (px3 := px3) (pk0 := pk0) o1 hf0 (by omega) hc_px0 hc_px1 hc_px2 hc_px3) pd17 ?_
 intro vq2 h3 S4 q2 zh3
 obtain ⟨rfl, rfl, rfl⟩ := q2
 refine Ow.Go.nr (S' := []) (st' := [(.int 4), (.int 0)]) ?_
 refine Ow.Go.old (fun o5 => ?_)
 refine Ow.callStatic (pc' := 8) (W := 0) (k' := 0) (n' := 0) (argsL := [(.int 0), (.int 4)]) (rest := []) B e23_5 (w142 hw) (w76 hw) (w8 hw) (w77 hw) (con_checkIndex_26 hw G GS (px0 := (0 : Int32)) (px1 := (4 : Int32)) o5 (by decide) (by decide)) pd16 ?_
 intro vq6 h7 S8 q6 zh7
 obtain ⟨rfl, rfl, rfl⟩ := q6
 refine Ow.Go.nr (S' := []) (st' := []) ?_
 exact Ow.retV (S' := []) B e23_8 (⟨rfl, rfl, rfl⟩)
set_option maxRecDepth 65536 in
set_option maxHeartbeats 40000000 in
theorem con_getChar_137 (hw : Hw a0 Z) (G : Ow.Glo Z cz sf) (GS : GlS Z) {pa0 : Nat} {px0 : Int32} {px1 : Int32} {px2 : Int32} {px3 : Int32} {pk0 : ClassId} {h0 : Heap} (O0 : Old Z n0 h0) (hf0 : Arv Z h0 pa0 pk0 .byte (8 : Int32) [(.int px0.toInt8.toInt32), (.int (px0 >>> ((8 : Int32) &&& 31)).toInt8.toInt32), (.int px1.toInt8.toInt32), (.int (px1 >>> ((8 : Int32) &&& 31)).toInt8.toInt32), (.int px2.toInt8.toInt32), (.int (px2 >>> ((8 : Int32) &&& 31)).toInt8.toInt32), (.int px3.toInt8.toInt32), (.int (px3 >>> ((8 : Int32) &&& 31)).toInt8.toInt32)] (.int 0)) (hn0 : n0 ≤ pa0) (hk0 : ¬ (px0 < (0 : Int32))) (hk1 : ¬ ((65535 : Int32) < px0)) (hc_px0 : nar .char px0 = px0) (hc_px1 : nar .char px1 = px1) (hc_px2 : nar .char px2 = px2) (hc_px3 : nar .char px3 = px3) :
    Ow.Con l Z EL1 n0 my10 jdk_52_method_5_code 2 (Option.some Jvm.ClassFile.FieldType.char) [] ({ frames := 0, cells := 0, slots := 0, locals := 0 } : Room) #[(.ref pa0), (.int 0)] [] h0 (fun v h S' => (v = some (.int px0) ∧ h = h0 ∧ S' = [])) := by
 refine Ow.Con.enter (Ls := #[.val (.ref pa0), .val (.int 0)]) (plainFor_of_name pn3) O0 (hEW hw) (hSA hw) ?_
 intro p e s m below meth c B
 have z0 := Ow.old_le O0
 have lpa0 : (pa0 : Nat) < h0.size := hf0.lt
 refine Ow.getstatic (pc' := 3) B e11_0 (w127 hw) Via.refl GS.1 ?_
 refine Ow.ifT (pc' := 28) B e11_3 (by decide) ?_
 refine Ow.iloadN (pc' := 29) B e11_28 ?_
 refine Ow.iconst (pc' := 30) (x := 1) B e11_29 ?_
 refine Ow.ishl (pc' := 31) (z := 0) B e11_30 ?_
 refine Ow.istoreN (pc' := 32) (Ls' := #[.val (.ref pa0), .val (.int 0)]) B e11_31 ?_
 refine Ow.aloadN (pc' := 33) B e11_32 ?_
 refine Ow.iloadN (pc' := 34) B e11_33 ?_
 refine Ow.iinc (pc' := 37) (y := 1) (Ls' := #[.val (.ref pa0), .val (.int 1)]) B e11_34 ?_
 refine Ow.baload (pc' := 38) B e11_37 hf0 ⟨by decide, by decide⟩ rfl ?_
 refine Ow.sipush (pc' := 41) (x := 255) B e11_38 ?_
 refine Ow.iand (pc' := 42) (z := (px0.toInt8.toInt32 &&& (255 : Int32))) B e11_41 ?_
 refine Ow.getstatic (pc' := 45) B e11_42 (w128 hw) Via.refl GS.2.1 ?_
 refine Ow.ishl (pc' := 46) (z := ((px0.toInt8.toInt32 &&& (255 : Int32)) <<< ((0 : Int32) &&& 31))) B e11_45 ?_
 refine Ow.aloadN (pc' := 47) B e11_46 ?_
 refine Ow.iloadN (pc' := 48) B e11_47 ?_
 refine Ow.baload (pc' := 49) B e11_48 hf0 ⟨by decide, by decide⟩ rfl ?_
 refine Ow.sipush (pc' := 52) (x := 255) B e11_49 ?_
 refine Ow.iand (pc' := 53) (z := ((px0 >>> ((8 : Int32) &&& 31)).toInt8.toInt32 &&& (255 : Int32))) B e11_52 ?_
 refine Ow.getstatic (pc' := 56) B e11_53 (w129 hw) Via.refl GS.2.2 ?_
 refine Ow.ishl (pc' := 57) (z := (((px0 >>> ((8 : Int32) &&& 31)).toInt8.toInt32 &&& (255 : Int32)) <<< ((8 : Int32) &&& 31))) B e11_56 ?_
 refine Ow.ior (pc' := 58) (z := px0) (hz := (Ow.u16 (hk0) (hk1))) B e11_57 ?_
 refine Ow.i2c (pc' := 59) (z := px0) (hz := hc_px0) B e11_58 ?_
 exact Ow.retI (S' := []) (t := .char) (hnn := (Ow.cnarrow hc_px0)) B e11_59 (⟨rfl, rfl, rfl⟩)
set_option maxRecDepth 65536 in
set_option maxHeartbeats 40000000 in
theorem con_charAt_138 (hw : Hw a0 Z) (G : Ow.Glo Z cz sf) (GS : GlS Z) {pa0 : Nat} {px0 : Int32} {px1 : Int32} {px2 : Int32} {px3 : Int32} {pk0 : ClassId} {h0 : Heap} (O0 : Old Z n0 h0) (hf0 : Arv Z h0 pa0 pk0 .byte (8 : Int32) [(.int px0.toInt8.toInt32), (.int (px0 >>> ((8 : Int32) &&& 31)).toInt8.toInt32), (.int px1.toInt8.toInt32), (.int (px1 >>> ((8 : Int32) &&& 31)).toInt8.toInt32), (.int px2.toInt8.toInt32), (.int (px2 >>> ((8 : Int32) &&& 31)).toInt8.toInt32), (.int px3.toInt8.toInt32), (.int (px3 >>> ((8 : Int32) &&& 31)).toInt8.toInt32)] (.int 0)) (hn0 : n0 ≤ pa0) (hk0 : ¬ (px0 < (0 : Int32))) (hk1 : ¬ ((65535 : Int32) < px0)) (hc_px0 : nar .char px0 = px0) (hc_px1 : nar .char px1 = px1) (hc_px2 : nar .char px2 = px2) (hc_px3 : nar .char px3 = px3) :
    Ow.Con l Z EL1 n0 my23 jdk_52_method_83_code 2 (Option.some Jvm.ClassFile.FieldType.char) [] ({ frames := 3, cells := 0, slots := 0, locals := 40 } : Room) #[(.ref pa0), (.int 0)] [] h0 (fun v h S' => (v = some (.int px0) ∧ h = h0 ∧ S' = [])) := by
 refine Ow.Con.enter (Ls := #[.val (.ref pa0), .val (.int 0)]) (plainFor_of_name pn3) O0 (hEW hw) (hSA hw) ?_
 intro p e s m below meth c B
 have z0 := Ow.old_le O0
 have lpa0 : (pa0 : Nat) < h0.size := hf0.lt
 refine Ow.iloadN (pc' := 1) B e22_0 ?_
 refine Ow.aloadN (pc' := 2) B e22_1 ?_
 refine Ow.Go.old (fun o1 => ?_)
 refine Ow.callStatic (pc' := 5) (W := 0) (k' := 0) (n' := 0) (argsL := [(.int 0), (.ref pa0)]) (rest := []) B e22_2 (w136 hw) (w137 hw) (w40 hw) (w138 hw) (con_checkIndex_136 hw G GS (pa0 := pa0) (px0 := px0) (px1 := px1) (px2 := px2) (px3 := px3) (pk0 := pk0) o1 hf0 (by omega) hc_px0 hc_px1 hc_px2 hc_px3) pd18 ?_
 intro vq2 h3 S4 q2 zh3
 obtain ⟨rfl, rfl, rfl⟩ := q2
 refine Ow.Go.nr (S' := []) (st' := []) ?_
 refine Ow.aloadN (pc' := 6) B e22_5 ?_
 refine Ow.iloadN (pc' := 7) B e22_6 ?_
 refine Ow.Go.old (fun o5 => ?_)
 refine Ow.callStatic (pc' := 10) (W := 0) (k' := 0) (n' := 0) (argsL := [(.ref pa0), (.int 0)]) (rest := []) B e22_7 (w130 hw) (w131 hw) (w40 hw) (w132 hw) (con_getChar_137 hw G GS (pa0 := pa0) (px0 := px0) (px1 := px1) (px2 := px2) (px3 := px3) (pk0 := pk0) o5 hf0 (by omega) (hk0) (hk1) hc_px0 hc_px1 hc_px2 hc_px3) pd10 ?_
 intro vq6 h7 S8 q6 zh7
 obtain ⟨rfl, rfl, rfl⟩ := q6
 refine Ow.Go.nr (S' := []) (st' := [(.int px0)]) ?_
 exact Ow.retI (S' := []) (t := .char) (hnn := (Ow.cnarrow hc_px0)) B e22_10 (⟨rfl, rfl, rfl⟩)
set_option maxRecDepth 65536 in
set_option maxHeartbeats 40000000 in
theorem con_charAt_139 (hw : Hw a0 Z) (G : Ow.Glo Z cz sf) (GS : GlS Z) {pa0 : Nat} {pa1 : Nat} {px0 : Int32} {px1 : Int32} {px2 : Int32} {px3 : Int32} {pk0 : ClassId} {h0 : Heap} (O0 : Old Z n0 h0) (hf0 : Ow.Chs Z h0 pa0 pa1 pk0 [px0, px1, px2, px3]) (hn0 : n0 ≤ pa0) (hn1 : n0 ≤ pa1) (hk0 : ¬ (px0 < (0 : Int32))) (hk1 : ¬ ((65535 : Int32) < px0)) (hc_px0 : nar .char px0 = px0) (hc_px1 : nar .char px1 = px1) (hc_px2 : nar .char px2 = px2) (hc_px3 : nar .char px3 = px3) :
    Ow.Con l Z EL1 n0 my24 jdk_42_method_56_code 2 (Option.some Jvm.ClassFile.FieldType.char) [] ({ frames := 4, cells := 0, slots := 0, locals := 53 } : Room) #[(.ref pa0), (.int 0)] [] h0 (fun v h S' => (v = some (.int px0) ∧ h = h0 ∧ S' = [])) := by
 rcases hf0.2.2.2 with ⟨oc_hf0, oa_hf0, ol_hf0⟩ | ⟨oc_hf0, oa_hf0, ou_hf0⟩
 ·refine Ow.Con.enter (Ls := #[.val (.ref pa0), .val (.int 0)]) (plainFor_of_name pn1) O0 (hEW hw) (hSA hw) ?_
  intro p e s m below meth c B
  have z0 := Ow.old_le O0
  have oE_hf0 := hf0.1
  have oV_hf0 := hf0.2.1
  have oR_hf0 := hf0.2.2.1
  have oA_hf0 : Arv Z h0 pa1 pk0 .byte (4 : Int32) [(.int px0.toInt8.toInt32), (.int px1.toInt8.toInt32), (.int px2.toInt8.toInt32), (.int px3.toInt8.toInt32)] (.int 0) := oa_hf0
  have lpa0 : (pa0 : Nat) < h0.size := hf0.lt
  have lpa1 : (pa1 : Nat) < h0.size := oA_hf0.lt
  have lpa1 : (pa1 : Nat) < h0.size := hf0.ltt
  refine Ow.aloadN (pc' := 1) B e17_0 ?_
  refine Ow.Go.old (fun o1 => ?_)
  refine Ow.callVirtual (pc' := 4) (W := 0) (k' := 0) (n' := 0) (argsL := []) (rest := []) (K := "java/lang/String") B e17_1 (w66 hw) (w67 hw) (w69 hw) (w69 hw) (w68 hw) (w8 hw) (w70 hw) oE_hf0 (con_isLatin1_24 hw G GS (pa0 := pa0) o1 oc_hf0 (by omega)) pd3 ?_
  intro vq2 h3 S4 q2 zh3
  obtain ⟨rfl, rfl, rfl⟩ := q2
  refine Ow.Go.nr (S' := []) (st' := [(.int 1)]) ?_
  refine Ow.ifF (pc' := 7) B e17_4 (by decide) ?_
  refine Ow.aloadN (pc' := 8) B e17_7 ?_
  refine Ow.getfield (pc' := 11) B e17_8 (w26 hw) Via.refl oV_hf0 ?_
  refine Ow.iloadN (pc' := 12) B e17_11 ?_
  refine Ow.Go.old (fun o5 => ?_)
  refine Ow.callStatic (pc' := 15) (W := 0) (k' := 0) (n' := 0) (argsL := [(.ref pa1), (.int 0)]) (rest := []) B e17_12 (w71 hw) (w72 hw) (w73 hw) (w74 hw) (con_charAt_134 hw G GS (pa0 := pa1) (px0 := px0) (px1 := px1) (px2 := px2) (px3 := px3) (pk0 := pk0) o5 oA_hf0 (by omega) (hk0) (ol_hf0 px0 (by simp)) hc_px0 hc_px1 hc_px2 hc_px3) pd10 ?_
  intro vq6 h7 S8 q6 zh7
  obtain ⟨rfl, rfl, rfl⟩ := q6
  refine Ow.Go.nr (S' := []) (st' := [(.int px0)]) ?_
  exact Ow.retI (S' := []) (t := .char) (hnn := (Ow.cnarrow hc_px0)) B e17_15 (⟨rfl, rfl, rfl⟩)
 ·refine Ow.Con.enter (Ls := #[.val (.ref pa0), .val (.int 0)]) (plainFor_of_name pn1) O0 (hEW hw) (hSA hw) ?_
  intro p e s m below meth c B
  have z0 := Ow.old_le O0
  have oE_hf0 := hf0.1
  have oV_hf0 := hf0.2.1
  have oR_hf0 := hf0.2.2.1
  have oA_hf0 : Arv Z h0 pa1 pk0 .byte (8 : Int32) [(.int px0.toInt8.toInt32), (.int (px0 >>> ((8 : Int32) &&& 31)).toInt8.toInt32), (.int px1.toInt8.toInt32), (.int (px1 >>> ((8 : Int32) &&& 31)).toInt8.toInt32), (.int px2.toInt8.toInt32), (.int (px2 >>> ((8 : Int32) &&& 31)).toInt8.toInt32), (.int px3.toInt8.toInt32), (.int (px3 >>> ((8 : Int32) &&& 31)).toInt8.toInt32)] (.int 0) := oa_hf0
  have lpa0 : (pa0 : Nat) < h0.size := hf0.lt
  have lpa1 : (pa1 : Nat) < h0.size := oA_hf0.lt
  have lpa1 : (pa1 : Nat) < h0.size := hf0.ltt
  refine Ow.aloadN (pc' := 1) B e17_0 ?_
  refine Ow.Go.old (fun o1 => ?_)
  refine Ow.callVirtual (pc' := 4) (W := 0) (k' := 0) (n' := 0) (argsL := []) (rest := []) (K := "java/lang/String") B e17_1 (w66 hw) (w67 hw) (w69 hw) (w69 hw) (w68 hw) (w8 hw) (w70 hw) oE_hf0 (con_isLatin1_28 hw G GS (pa0 := pa0) o1 oc_hf0 (by omega)) pd3 ?_
  intro vq2 h3 S4 q2 zh3
  obtain ⟨rfl, rfl, rfl⟩ := q2
  refine Ow.Go.nr (S' := []) (st' := [(.int 0)]) ?_
  refine Ow.ifT (pc' := 16) B e17_4 (by decide) ?_
  refine Ow.aloadN (pc' := 17) B e17_16 ?_
  refine Ow.getfield (pc' := 20) B e17_17 (w26 hw) Via.refl oV_hf0 ?_
  refine Ow.iloadN (pc' := 21) B e17_20 ?_
  refine Ow.Go.old (fun o5 => ?_)
  refine Ow.callStatic (pc' := 24) (W := 0) (k' := 0) (n' := 0) (argsL := [(.ref pa1), (.int 0)]) (rest := []) B e17_21 (w133 hw) (w134 hw) (w40 hw) (w135 hw) (con_charAt_138 hw G GS (pa0 := pa1) (px0 := px0) (px1 := px1) (px2 := px2) (px3 := px3) (pk0 := pk0) o5 oA_hf0 (by omega) (hk0) (hk1) hc_px0 hc_px1 hc_px2 hc_px3) pd10 ?_
  intro vq6 h7 S8 q6 zh7
  obtain ⟨rfl, rfl, rfl⟩ := q6
  refine Ow.Go.nr (S' := []) (st' := [(.int px0)]) ?_
  exact Ow.retI (S' := []) (t := .char) (hnn := (Ow.cnarrow hc_px0)) B e17_24 (⟨rfl, rfl, rfl⟩)
set_option maxRecDepth 65536 in
set_option maxHeartbeats 40000000 in
theorem con_isToken_140 (hw : Hw a0 Z) (G : Ow.Glo Z cz sf) (GS : GlS Z) {pa0 : Nat} {pa1 : Nat} {px0 : Int32} {px1 : Int32} {px2 : Int32} {px3 : Int32} {pk0 : ClassId} {h0 : Heap} (O0 : Old Z n0 h0) (hf0 : Ow.Chs Z h0 pa0 pa1 pk0 [px0, px1, px2, px3]) (hn0 : n0 ≤ pa0) (hn1 : n0 ≤ pa1) (hk0 : ¬ (px0 < (0 : Int32))) (hk1 : ¬ ((65535 : Int32) < px0)) (hk2 : ¬ (tokP px0)) (hc_px0 : nar .char px0 = px0) (hc_px1 : nar .char px1 = px1) (hc_px2 : nar .char px2 = px2) (hc_px3 : nar .char px3 = px3) :
    Ow.Con l Z EL1 n0 my4 prog_28_method_5_code 4 (Option.some Jvm.ClassFile.FieldType.boolean) [] ({ frames := 5, cells := 2, slots := 64, locals := 66 } : Room) #[(.ref pa0)] [] h0 (fun v h S' => (v = some (.int 0) ∧ Keep h0 h [] ∧ ¬ (symP px0) ∧ S' = [])) := by
 refine Ow.Con.enter (Ls := #[.val (.ref pa0), .unset, .unset, .unset]) (plainFor_of_name pn2) O0 (hEW hw) (hSA hw) ?_
 intro p e s m below meth c B
 have z0 := Ow.old_le O0
 have lpa0 : (pa0 : Nat) < h0.size := hf0.lt
 have lpa1 : (pa1 : Nat) < h0.size := hf0.ltt
 refine Ow.aloadN (pc' := 1) B e0_0 ?_
 refine Ow.Go.old (fun o1 => ?_)
 refine Ow.callVirtual (pc' := 4) (W := 0) (k' := 0) (n' := 0) (argsL := []) (rest := []) (K := "java/lang/String") B e0_1 (w32 hw) (w33 hw) (w35 hw) (w35 hw) (w34 hw) (w8 hw) (w36 hw) (hf0).1 (con_isEmpty_132 hw G GS (pa0 := pa0) (pa1 := pa1) (px0 := px0) (px1 := px1) (px2 := px2) (px3 := px3) (pk0 := pk0) o1 hf0 (by omega) (by omega) hc_px0 hc_px1 hc_px2 hc_px3) pd3 ?_
 intro vq2 h3 S4 q2 zh3
 obtain ⟨rfl, rfl, rfl⟩ := q2
 refine Ow.Go.nr (S' := []) (st' := [(.int 0)]) ?_
 refine Ow.ifT (pc' := 9) B e0_4 (by decide) ?_
 refine Ow.iconst (pc' := 10) (x := 0) B e0_9 ?_
 refine Ow.istoreN (pc' := 11) (Ls' := #[.val (.ref pa0), .val (.int 0), .unset, .unset]) B e0_10 ?_
 refine Ow.iloadN (pc' := 12) B e0_11 ?_
 refine Ow.aloadN (pc' := 13) B e0_12 ?_
 refine Ow.Go.old (fun o5 => ?_)
 refine Ow.callVirtual (pc' := 16) (W := 1) (k' := 0) (n' := 0) (argsL := []) (rest := [(.int 0)]) (K := "java/lang/String") B e0_13 (w51 hw) (w52 hw) (w54 hw) (w54 hw) (w53 hw) (w8 hw) (w55 hw) (hf0).1 (con_length_133 hw G GS (pa0 := pa0) (pa1 := pa1) (px0 := px0) (px1 := px1) (px2 := px2) (px3 := px3) (pk0 := pk0) o5 hf0 (by omega) (by omega) hc_px0 hc_px1 hc_px2 hc_px3) pd14 ?_
 intro vq6 h7 S8 q6 zh7
 obtain ⟨rfl, rfl, rfl⟩ := q6
 refine Ow.Go.nr (S' := []) (st' := [(.int 4), (.int 0)]) ?_
 refine Ow.icmpF (pc' := 19) B e0_16 (by decide) ?_
 refine Ow.aloadN (pc' := 20) B e0_19 ?_
 refine Ow.iloadN (pc' := 21) B e0_20 ?_
 refine Ow.Go.old (fun o9 => ?_)
 refine Ow.callVirtual (pc' := 24) (W := 0) (k' := 0) (n' := 0) (argsL := [(.int 0)]) (rest := []) (K := "java/lang/String") B e0_21 (w61 hw) (w62 hw) (w64 hw) (w64 hw) (w63 hw) (w8 hw) (w65 hw) (hf0).1 (con_charAt_139 hw G GS (pa0 := pa0) (pa1 := pa1) (px0 := px0) (px1 := px1) (px2 := px2) (px3 := px3) (pk0 := pk0) o9 hf0 (by omega) (by omega) (hk0) (hk1) hc_px0 hc_px1 hc_px2 hc_px3) pd19 ?_
 intro vq10 h11 S12 q10 zh11
 obtain ⟨rfl, rfl, rfl⟩ := q10
 refine Ow.Go.nr (S' := []) (st' := [(.int px0)]) ?_
 refine Ow.istoreN (pc' := 25) (Ls' := #[.val (.ref pa0), .val (.int 0), .val (.int px0), .unset]) B e0_24 ?_
 by_cases c13 : alP px0
 ·exact absurd (Or.inl c13) (hk2)
 ·refine blk_no_u hw B (pb := 0) ⟨hk0, hk1⟩ c13 (fun b14 => ?_)
  refine Ow.ldcText (pc' := 73) (k' := 2) (n' := 64) (nn := 60) (vs := [(.int 33), (.int 35), (.int 36), (.int 37), (.int 38), (.int 39), (.int 42), (.int 43), (.int 45), (.int 46), (.int 94), (.int 95), (.int 96), (.int 124), (.int 126)]) (z := 15) B e0_71 (w83 hw) (by decide) ⟨by decide, by decide⟩ (by decide) (by decide) ?_
  intro h16 a15 t17 kt17 Kh16 Ea15 Ca15 Va15 At17 Na15
  have zh16 := Kh16.1
  have la15 : (a15 : Nat) < h16.size := Ea15.lt
  have lt17 : (t17 : Nat) < h16.size := At17.lt
  refine Ow.iloadN (pc' := 74) B e0_73 ?_
  refine Ow.Go.old (fun o18 => ?_)
  refine Ow.callVirtual (pc' := 77) (W := 0) (k' := 2) (n' := 64) (argsL := [(.int px0)]) (rest := []) (K := "java/lang/String") B e0_74 (w84 hw) (w85 hw) (w87 hw) (w87 hw) (w86 hw) (w8 hw) (w88 hw) Ea15 (con_indexOf_43 hw G GS (pa0 := a15) (pa1 := t17) (px0 := px0) (pk0 := kt17) o18 Ea15 Ca15 Va15 At17 (hk0) hc_px0) pd6 ?_
  intro vq19 h20 S21 q19 zh20
  rcases q19 with q19 | q19
  ·obtain ⟨y22, rfl, rfl, c23, c24, rfl⟩ := q19
   refine Ow.Go.nr (S' := []) (st' := [(.int y22)]) ?_
   refine Ow.ifF (pc' := 80) B e0_77 (tlt (c24)).2.1 ?_
   refine Ow.iconst (pc' := 81) (x := 0) B e0_80 ?_
   exact Ow.retI (S' := []) (t := .boolean) B e0_81 (⟨rfl, ((Keep.refl _ []).trans Kh16 (fun _ q => nomatch q)), c23, rfl⟩)
  ·obtain ⟨y25, rfl, rfl, c26, c27, rfl⟩ := q19
   refine Ow.Go.nr (S' := []) (st' := [(.int y25)]) ?_
   refine Ow.ifT (pc' := 82) B e0_77 (flt (c27)).2.1 ?_
   exact absurd (Or.inr (c26)) (hk2)
set_option maxRecDepth 65536 in
set_option maxHeartbeats 40000000 in
theorem seg132_11 (hw : Hw a0 Z) (G : Ow.Glo Z cz sf) (GS : GlS Z) {pa0 : Nat} {pa1 : Nat} {px0 : Int32} {px1 : Int32} {px2 : Int32} {px3 : Int32} {pk0 : ClassId} {dl0 : Int32} {dl1 : Int32} {dl2 : Int32} {dl3 : Int32} {dl4 : Int32} {dl5 : Int32} {dl6 : Int32} {dl7 : Int32} {dl8 : Int32} {dl9 : Int32} {p : Program} {e : Env} {s : State} {m : MethodId} {args : Array Value} {below : List Frame} {meth : Method} {c : ClassFile.Code} (B : Ow.Bdy p meth c Z EL1 a0 code maxLocals ret x.name) {h0 : Heap} (O0 : Old Z n0 h0) (hf0 : Ow.Chs Z h0 pa0 pa1 pk0 [px0, px1, px2, px3]) (hn0 : n0 ≤ pa0) (hn1 : n0 ≤ pa1) (hk0 : ¬ (px0 < (0 : Int32))) (hk1 : ¬ ((65535 : Int32) < px0)) (hk2 : ¬ (tokP px0)) (hc_px0 : nar .char px0 = px0) (hc_px1 : nar .char px1 = px1) (hc_px2 : nar .char px2 = px2) (hc_px3 : nar .char px3 = px3) :
  Ow.Go p l e room_1 s m args below meth c Z EL1 n0 x.cls (fun v _ _ => v = some (.int 1)) [] h0 22 2112 132 #[.val (.int dl0), .val (.int dl1), .val (.int dl2), .val (.int dl3), .val (.int dl4), .val (.int dl5), .val (.int dl6), .val (.int dl7), .val (.int dl8), .val (.int dl9), .val (.ref pa0), .val (.int 0)] [] := by
 have z0 := Ow.old_le O0
 have lpa0 : (pa0 : Nat) < h0.size := hf0.lt
 have lpa1 : (pa1 : Nat) < h0.size := hf0.ltt
 refine Ow.aload (pc' := 134) B at_132 ?_
 refine Ow.Go.old (fun o1 => ?_)
 refine Ow.callStatic (pc' := 137) (W := 0) (k' := 24) (n' := 2176) (argsL := [(.ref pa0)]) (rest := []) B at_134 (w28 hw) (w29 hw) (w30 hw) (w31 hw) (con_isToken_140 hw G GS (pa0 := pa0) (pa1 := pa1) (px0 := px0) (px1 := px1) (px2 := px2) (px3 := px3) (pk0 := pk0) o1 hf0 (by omega) (by omega) (hk0) (hk1) (hk2) hc_px0 hc_px1 hc_px2 hc_px3) pd4 ?_
 intro vq2 h3 S4 q2 zh3
 obtain ⟨rfl, Kh3, c5, rfl⟩ := q2
 refine Ow.Go.nr (S' := []) (st' := [(.int 0)]) ?_
 refine Ow.iload (pc' := 139) B at_137 ?_
 refine Ow.icmpF (pc' := 142) B at_139 (by decide) ?_
 refine Ow.iconst (pc' := 143) (x := 1) B at_142 ?_
 refine Ow.goto (pc' := 147) B at_143 ?_
 exact Ow.retI (S' := []) (t := .boolean) B at_147 (rfl)
set_option maxRecDepth 65536 in
set_option maxHeartbeats 40000000 in
theorem con_charAt_141 (hw : Hw a0 Z) (G : Ow.Glo Z cz sf) (GS : GlS Z) {pa0 : Nat} {px0 : Int32} {px1 : Int32} {px2 : Int32} {px3 : Int32} {pk0 : ClassId} {h0 : Heap} (O0 : Old Z n0 h0) (hf0 : Arv Z h0 pa0 pk0 .byte (4 : Int32) [(.int px0.toInt8.toInt32), (.int px1.toInt8.toInt32), (.int px2.toInt8.toInt32), (.int px3.toInt8.toInt32)] (.int 0)) (hn0 : n0 ≤ pa0) (hk0 : ¬ (px1 < (0 : Int32))) (hk1 : ¬ ((255 : Int32) < px1)) (hc_px0 : nar .char px0 = px0) (hc_px1 : nar .char px1 = px1) (hc_px2 : nar .char px2 = px2) (hc_px3 : nar .char px3 = px3) :
    Ow.Con l Z EL1 n0 my20 jdk_43_method_2_code 2 (Option.some Jvm.ClassFile.FieldType.char) [] ({ frames := 2, cells := 0, slots := 0, locals := 27 } : Room) #[(.ref pa0), (.int 1)] [] h0 (fun v h S' => (v = some (.int px1) ∧ h = h0 ∧ S' = [])) := by
 refine Ow.Con.enter (Ls := #[.val (.ref pa0), .val (.int 1)]) (plainFor_of_name pn4) O0 (hEW hw) (hSA hw) ?_
 intro p e s m below meth c B
 have z0 := Ow.old_le O0
 have lpa0 : (pa0 : Nat) < h0.size := hf0.lt
 refine Ow.iloadN (pc' := 1) B e19_0 ?_
 refine Ow.aloadN (pc' := 2) B e19_1 ?_
 refine Ow.arrlen (pc' := 3) B e19_2 hf0 ?_
 refine Ow.Go.old (fun o1 => ?_)
 refine Ow.callStatic (pc' := 6) (W := 0) (k' := 0) (n' := 0) (argsL := [(.int 1), (.int 4)]) (rest := []) B e19_3 (w75 hw) (w76 hw) (w8 hw) (w77 hw) (con_checkIndex_26 hw G GS (px0 := (1 : Int32)) (px1 := (4 : Int32)) o1 (by decide) (by decide)) pd16 ?_
 intro vq2 h3 S4 q2 zh3
 obtain ⟨rfl, rfl, rfl⟩ := q2
 refine Ow.Go.nr (S' := []) (st' := []) ?_
 refine Ow.aloadN (pc' := 7) B e19_6 ?_
 refine Ow.iloadN (pc' := 8) B e19_7 ?_
 refine Ow.baload (pc' := 9) B e19_8 hf0 ⟨by decide, by decide⟩ rfl ?_
 refine Ow.sipush (pc' := 12) (x := 255) B e19_9 ?_
 refine Ow.iand (pc' := 13) (z := px1) (hz := (Ow.b255 (hk0) (hk1))) B e19_12 ?_
 refine Ow.i2c (pc' := 14) (z := px1) (hz := (Ow.c_id (hk0) (hk1))) B e19_13 ?_
 exact Ow.retI (S' := []) (t := .char) (hnn := (Ow.cnarrow (Ow.nar_id (hk0) (hk1)))) B e19_14 (⟨rfl, rfl, rfl⟩)
set_option maxRecDepth 65536 in
set_option maxHeartbeats 40000000 in
theorem con_checkIndex_142 (hw : Hw a0 Z) (G : Ow.Glo Z cz sf) (GS : GlS Z) {pa0 : Nat} {px0 : Int32} {px1 : Int32} {px2 : Int32} {px3 : Int32} {pk0 : ClassId} {h0 : Heap} (O0 : Old Z n0 h0) (hf0 : Arv Z h0 pa0 pk0 .byte (8 : Int32) [(.int px0.toInt8.toInt32), (.int (px0 >>> ((8 : Int32) &&& 31)).toInt8.toInt32), (.int px1.toInt8.toInt32), (.int (px1 >>> ((8 : Int32) &&& 31)).toInt8.toInt32), (.int px2.toInt8.toInt32), (.int (px2 >>> ((8 : Int32) &&& 31)).toInt8.toInt32), (.int px3.toInt8.toInt32), (.int (px3 >>> ((8 : Int32) &&& 31)).toInt8.toInt32)] (.int 0)) (hn0 : n0 ≤ pa0) (hc_px0 : nar .char px0 = px0) (hc_px1 : nar .char px1 = px1) (hc_px2 : nar .char px2 = px2) (hc_px3 : nar .char px3 = px3) :
    Ow.Con l Z EL1 n0 my22 jdk_52_method_91_code 2 (Option.none : Option Jvm.ClassFile.FieldType) [] ({ frames := 2, cells := 0, slots := 0, locals := 27 } : Room) #[(.int 1), (.ref pa0)] [] h0 (fun v h S' => (v = none ∧ h = h0 ∧ S' = [])) := by
 refine Ow.Con.enter (Ls := #[.val (.int 1), .val (.ref pa0)]) (plainFor_of_name pn3) O0 (hEW hw) (hSA hw) ?_
 intro p e s m below meth c B
 have z0 := Ow.old_le O0
 have lpa0 : (pa0 : Nat) < h0.size := hf0.lt
 refine Ow.iloadN (pc' := 1) B e23_0 ?_
 refine Ow.aloadN (pc' := 2) B e23_1 ?_
 refine Ow.Go.old (fun o1 => ?_)
 refine Ow.callStatic (pc' := 5) (W := 1) (k' := 0) (n' := 0) (argsL := [(.ref pa0)]) (rest := [(.int 1)]) B e23_2 (w139 hw) (w140 hw) (w40 hw) (w141 hw) (con_length_135 hw G GS (pa0 := pa0) (px0 := px0) (px1 := px1) (px2 := px2) (px3 := px3) (pk0 := pk0) o1 hf0 (by omega) hc_px0 hc_px1 hc_px2 hc_px3) pd17 ?_
 intro vq2 h3 S4 q2 zh3
 obtain ⟨rfl, rfl, rfl⟩ := q2
 refine Ow.Go.nr (S' := []) (st' := [(.int 4), (.int 1)]) ?_
 refine Ow.Go.old (fun o5 => ?_)
 refine Ow.callStatic (pc' := 8) (W := 0) (k' := 0) (n' := 0) (argsL := [(.int 1), (.int 4)]) (rest := []) B e23_5 (w142 hw) (w76 hw) (w8 hw) (w77 hw) (con_checkIndex_26 hw G GS (px0 := (1 : Int32)) (px1 := (4 : Int32)) o5 (by decide) (by decide)) pd16 ?_
 intro vq6 h7 S8 q6 zh7
 obtain ⟨rfl, rfl, rfl⟩ := q6
 refine Ow.Go.nr (S' := []) (st' := []) ?_
 exact Ow.retV (S' := []) B e23_8 (⟨rfl, rfl, rfl⟩)
set_option maxRecDepth 65536 in
set_option maxHeartbeats 40000000 in
theorem con_getChar_143 (hw : Hw a0 Z) (G : Ow.Glo Z cz sf) (GS : GlS Z) {pa0 : Nat} {px0 : Int32} {px1 : Int32} {px2 : Int32} {px3 : Int32} {pk0 : ClassId} {h0 : Heap} (O0 : Old Z n0 h0) (hf0 : Arv Z h0 pa0 pk0 .byte (8 : Int32) [(.int px0.toInt8.toInt32), (.int (px0 >>> ((8 : Int32) &&& 31)).toInt8.toInt32), (.int px1.toInt8.toInt32), (.int (px1 >>> ((8 : Int32) &&& 31)).toInt8.toInt32), (.int px2.toInt8.toInt32), (.int (px2 >>> ((8 : Int32) &&& 31)).toInt8.toInt32), (.int px3.toInt8.toInt32), (.int (px3 >>> ((8 : Int32) &&& 31)).toInt8.toInt32)] (.int 0)) (hn0 : n0 ≤ pa0) (hk0 : ¬ (px1 < (0 : Int32))) (hk1 : ¬ ((65535 : Int32) < px1)) (hc_px0 : nar .char px0 = px0) (hc_px1 : nar .char px1 = px1) (hc_px2 : nar .char px2 = px2) (hc_px3 : nar .char px3 = px3) :
    Ow.Con l Z EL1 n0 my10 jdk_52_method_5_code 2 (Option.some Jvm.ClassFile.FieldType.char) [] ({ frames := 0, cells := 0, slots := 0, locals := 0 } : Room) #[(.ref pa0), (.int 1)] [] h0 (fun v h S' => (v = some (.int px1) ∧ h = h0 ∧ S' = [])) := by
 refine Ow.Con.enter (Ls := #[.val (.ref pa0), .val (.int 1)]) (plainFor_of_name pn3) O0 (hEW hw) (hSA hw) ?_
 intro p e s m below meth c B
 have z0 := Ow.old_le O0
 have lpa0 : (pa0 : Nat) < h0.size := hf0.lt
 refine Ow.getstatic (pc' := 3) B e11_0 (w127 hw) Via.refl GS.1 ?_
 refine Ow.ifT (pc' := 28) B e11_3 (by decide) ?_
 refine Ow.iloadN (pc' := 29) B e11_28 ?_
 refine Ow.iconst (pc' := 30) (x := 1) B e11_29 ?_
 refine Ow.ishl (pc' := 31) (z := 2) B e11_30 ?_
 refine Ow.istoreN (pc' := 32) (Ls' := #[.val (.ref pa0), .val (.int 2)]) B e11_31 ?_
 refine Ow.aloadN (pc' := 33) B e11_32 ?_
 refine Ow.iloadN (pc' := 34) B e11_33 ?_
 refine Ow.iinc (pc' := 37) (y := 3) (Ls' := #[.val (.ref pa0), .val (.int 3)]) B e11_34 ?_
 refine Ow.baload (pc' := 38) B e11_37 hf0 ⟨by decide, by decide⟩ rfl ?_
 refine Ow.sipush (pc' := 41) (x := 255) B e11_38 ?_
 refine Ow.iand (pc' := 42) (z := (px1.toInt8.toInt32 &&& (255 : Int32))) B e11_41 ?_
 refine Ow.getstatic (pc' := 45) B e11_42 (w128 hw) Via.refl GS.2.1 ?_
 refine Ow.ishl (pc' := 46) (z := ((px1.toInt8.toInt32 &&& (255 : Int32)) <<< ((0 : Int32) &&& 31))) B e11_45 ?_
 refine Ow.aloadN (pc' := 47) B e11_46 ?_
 refine Ow.iloadN (pc' := 48) B e11_47 ?_
 refine Ow.baload (pc' := 49) B e11_48 hf0 ⟨by decide, by decide⟩ rfl ?_
 refine Ow.sipush (pc' := 52) (x := 255) B e11_49 ?_
 refine Ow.iand (pc' := 53) (z := ((px1 >>> ((8 : Int32) &&& 31)).toInt8.toInt32 &&& (255 : Int32))) B e11_52 ?_
 refine Ow.getstatic (pc' := 56) B e11_53 (w129 hw) Via.refl GS.2.2 ?_
 refine Ow.ishl (pc' := 57) (z := (((px1 >>> ((8 : Int32) &&& 31)).toInt8.toInt32 &&& (255 : Int32)) <<< ((8 : Int32) &&& 31))) B e11_56 ?_
 refine Ow.ior (pc' := 58) (z := px1) (hz := (Ow.u16 (hk0) (hk1))) B e11_57 ?_
 refine Ow.i2c (pc' := 59) (z := px1) (hz := hc_px1) B e11_58 ?_
 exact Ow.retI (S' := []) (t := .char) (hnn := (Ow.cnarrow hc_px1)) B e11_59 (⟨rfl, rfl, rfl⟩)
set_option maxRecDepth 65536 in
set_option maxHeartbeats 40000000 in
theorem con_charAt_144 (hw : Hw a0 Z) (G : Ow.Glo Z cz sf) (GS : GlS Z) {pa0 : Nat} {px0 : Int32} {px1 : Int32} {px2 : Int32} {px3 : Int32} {pk0 : ClassId} {h0 : Heap} (O0 : Old Z n0 h0) (hf0 : Arv Z h0 pa0 pk0 .byte (8 : Int32) [(.int px0.toInt8.toInt32), (.int (px0 >>> ((8 : Int32) &&& 31)).toInt8.toInt32), (.int px1.toInt8.toInt32), (.int (px1 >>> ((8 : Int32) &&& 31)).toInt8.toInt32), (.int px2.toInt8.toInt32), (.int (px2 >>> ((8 : Int32) &&& 31)).toInt8.toInt32), (.int px3.toInt8.toInt32), (.int (px3 >>> ((8 : Int32) &&& 31)).toInt8.toInt32)] (.int 0)) (hn0 : n0 ≤ pa0) (hk0 : ¬ (px1 < (0 : Int32))) (hk1 : ¬ ((65535 : Int32) < px1)) (hc_px0 : nar .char px0 = px0) (hc_px1 : nar .char px1 = px1) (hc_px2 : nar .char px2 = px2) (hc_px3 : nar .char px3 = px3) :
    Ow.Con l Z EL1 n0 my23 jdk_52_method_83_code 2 (Option.some Jvm.ClassFile.FieldType.char) [] ({ frames := 3, cells := 0, slots := 0, locals := 40 } : Room) #[(.ref pa0), (.int 1)] [] h0 (fun v h S' => (v = some (.int px1) ∧ h = h0 ∧ S' = [])) := by
 refine Ow.Con.enter (Ls := #[.val (.ref pa0), .val (.int 1)]) (plainFor_of_name pn3) O0 (hEW hw) (hSA hw) ?_
 intro p e s m below meth c B
 have z0 := Ow.old_le O0
 have lpa0 : (pa0 : Nat) < h0.size := hf0.lt
 refine Ow.iloadN (pc' := 1) B e22_0 ?_
 refine Ow.aloadN (pc' := 2) B e22_1 ?_
 refine Ow.Go.old (fun o1 => ?_)
 refine Ow.callStatic (pc' := 5) (W := 0) (k' := 0) (n' := 0) (argsL := [(.int 1), (.ref pa0)]) (rest := []) B e22_2 (w136 hw) (w137 hw) (w40 hw) (w138 hw) (con_checkIndex_142 hw G GS (pa0 := pa0) (px0 := px0) (px1 := px1) (px2 := px2) (px3 := px3) (pk0 := pk0) o1 hf0 (by omega) hc_px0 hc_px1 hc_px2 hc_px3) pd18 ?_
 intro vq2 h3 S4 q2 zh3
 obtain ⟨rfl, rfl, rfl⟩ := q2
 refine Ow.Go.nr (S' := []) (st' := []) ?_
 refine Ow.aloadN (pc' := 6) B e22_5 ?_
 refine Ow.iloadN (pc' := 7) B e22_6 ?_
 refine Ow.Go.old (fun o5 => ?_)
 refine Ow.callStatic (pc' := 10) (W := 0) (k' := 0) (n' := 0) (argsL := [(.ref pa0), (.int 1)]) (rest := []) B e22_7 (w130 hw) (w131 hw) (w40 hw) (w132 hw) (con_getChar_143 hw G GS (pa0 := pa0) (px0 := px0) (px1 := px1) (px2 := px2) (px3 := px3) (pk0 := pk0) o5 hf0 (by omega) (hk0) (hk1) hc_px0 hc_px1 hc_px2 hc_px3) pd10 ?_
 intro vq6 h7 S8 q6 zh7
 obtain ⟨rfl, rfl, rfl⟩ := q6
 refine Ow.Go.nr (S' := []) (st' := [(.int px1)]) ?_
 exact Ow.retI (S' := []) (t := .char) (hnn := (Ow.cnarrow hc_px1)) B e22_10 (⟨rfl, rfl, rfl⟩)
set_option maxRecDepth 65536 in
set_option maxHeartbeats 40000000 in
theorem con_charAt_145 (hw : Hw a0 Z) (G : Ow.Glo Z cz sf) (GS : GlS Z) {pa0 : Nat} {pa1 : Nat} {px0 : Int32} {px1 : Int32} {px2 : Int32} {px3 : Int32} {pk0 : ClassId} {h0 : Heap} (O0 : Old Z n0 h0) (hf0 : Ow.Chs Z h0 pa0 pa1 pk0 [px0, px1, px2, px3]) (hn0 : n0 ≤ pa0) (hn1 : n0 ≤ pa1) (hk0 : ¬ (px1 < (0 : Int32))) (hk1 : ¬ ((65535 : Int32) < px1)) (hc_px0 : nar .char px0 = px0) (hc_px1 : nar .char px1 = px1) (hc_px2 : nar .char px2 = px2) (hc_px3 : nar .char px3 = px3) :
    Ow.Con l Z EL1 n0 my24 jdk_42_method_56_code 2 (Option.some Jvm.ClassFile.FieldType.char) [] ({ frames := 4, cells := 0, slots := 0, locals := 53 } : Room) #[(.ref pa0), (.int 1)] [] h0 (fun v h S' => (v = some (.int px1) ∧ h = h0 ∧ S' = [])) := by
 rcases hf0.2.2.2 with ⟨oc_hf0, oa_hf0, ol_hf0⟩ | ⟨oc_hf0, oa_hf0, ou_hf0⟩
 ·refine Ow.Con.enter (Ls := #[.val (.ref pa0), .val (.int 1)]) (plainFor_of_name pn1) O0 (hEW hw) (hSA hw) ?_
  intro p e s m below meth c B
  have z0 := Ow.old_le O0
  have oE_hf0 := hf0.1
  have oV_hf0 := hf0.2.1
  have oR_hf0 := hf0.2.2.1
  have oA_hf0 : Arv Z h0 pa1 pk0 .byte (4 : Int32) [(.int px0.toInt8.toInt32), (.int px1.toInt8.toInt32), (.int px2.toInt8.toInt32), (.int px3.toInt8.toInt32)] (.int 0) := oa_hf0
  have lpa0 : (pa0 : Nat) < h0.size := hf0.lt
  have lpa1 : (pa1 : Nat) < h0.size := oA_hf0.lt
  have lpa1 : (pa1 : Nat) < h0.size := hf0.ltt
  refine Ow.aloadN (pc' := 1) B e17_0 ?_
  refine Ow.Go.old (fun o1 => ?_)
  refine Ow.callVirtual (pc' := 4) (W := 0) (k' := 0) (n' := 0) (argsL := []) (rest := []) (K := "java/lang/String") B e17_1 (w66 hw) (w67 hw) (w69 hw) (w69 hw) (w68 hw) (w8 hw) (w70 hw) oE_hf0 (con_isLatin1_24 hw G GS (pa0 := pa0) o1 oc_hf0 (by omega)) pd3 ?_
  intro vq2 h3 S4 q2 zh3
  obtain ⟨rfl, rfl, rfl⟩ := q2
  refine Ow.Go.nr (S' := []) (st' := [(.int 1)]) ?_
  refine Ow.ifF (pc' := 7) B e17_4 (by decide) ?_
  refine Ow.aloadN (pc' := 8) B e17_7 ?_
  refine Ow.getfield (pc' := 11) B e17_8 (w26 hw) Via.refl oV_hf0 ?_
  refine Ow.iloadN (pc' := 12) B e17_11 ?_
  refine Ow.Go.old (fun o5 => ?_)
  refine Ow.callStatic (pc' := 15) (W := 0) (k' := 0) (n' := 0) (argsL := [(.ref pa1), (.int 1)]) (rest := []) B e17_12 (w71 hw) (w72 hw) (w73 hw) (w74 hw) (con_charAt_141 hw G GS (pa0 := pa1) (px0 := px0) (px1 := px1) (px2 := px2) (px3 := px3) (pk0 := pk0) o5 oA_hf0 (by omega) (hk0) (ol_hf0 px1 (by simp)) hc_px0 hc_px1 hc_px2 hc_px3) pd10 ?_
  intro vq6 h7 S8 q6 zh7
  obtain ⟨rfl, rfl, rfl⟩ := q6
  refine Ow.Go.nr (S' := []) (st' := [(.int px1)]) ?_
  exact Ow.retI (S' := []) (t := .char) (hnn := (Ow.cnarrow hc_px1)) B e17_15 (⟨rfl, rfl, rfl⟩)
 ·refine Ow.Con.enter (Ls := #[.val (.ref pa0), .val (.int 1)]) (plainFor_of_name pn1) O0 (hEW hw) (hSA hw) ?_
  intro p e s m below meth c B
  have z0 := Ow.old_le O0
  have oE_hf0 := hf0.1
  have oV_hf0 := hf0.2.1
  have oR_hf0 := hf0.2.2.1
  have oA_hf0 : Arv Z h0 pa1 pk0 .byte (8 : Int32) [(.int px0.toInt8.toInt32), (.int (px0 >>> ((8 : Int32) &&& 31)).toInt8.toInt32), (.int px1.toInt8.toInt32), (.int (px1 >>> ((8 : Int32) &&& 31)).toInt8.toInt32), (.int px2.toInt8.toInt32), (.int (px2 >>> ((8 : Int32) &&& 31)).toInt8.toInt32), (.int px3.toInt8.toInt32), (.int (px3 >>> ((8 : Int32) &&& 31)).toInt8.toInt32)] (.int 0) := oa_hf0
  have lpa0 : (pa0 : Nat) < h0.size := hf0.lt
  have lpa1 : (pa1 : Nat) < h0.size := oA_hf0.lt
  have lpa1 : (pa1 : Nat) < h0.size := hf0.ltt
  refine Ow.aloadN (pc' := 1) B e17_0 ?_
  refine Ow.Go.old (fun o1 => ?_)
  refine Ow.callVirtual (pc' := 4) (W := 0) (k' := 0) (n' := 0) (argsL := []) (rest := []) (K := "java/lang/String") B e17_1 (w66 hw) (w67 hw) (w69 hw) (w69 hw) (w68 hw) (w8 hw) (w70 hw) oE_hf0 (con_isLatin1_28 hw G GS (pa0 := pa0) o1 oc_hf0 (by omega)) pd3 ?_
  intro vq2 h3 S4 q2 zh3
  obtain ⟨rfl, rfl, rfl⟩ := q2
  refine Ow.Go.nr (S' := []) (st' := [(.int 0)]) ?_
  refine Ow.ifT (pc' := 16) B e17_4 (by decide) ?_
  refine Ow.aloadN (pc' := 17) B e17_16 ?_
  refine Ow.getfield (pc' := 20) B e17_17 (w26 hw) Via.refl oV_hf0 ?_
  refine Ow.iloadN (pc' := 21) B e17_20 ?_
  refine Ow.Go.old (fun o5 => ?_)
  refine Ow.callStatic (pc' := 24) (W := 0) (k' := 0) (n' := 0) (argsL := [(.ref pa1), (.int 1)]) (rest := []) B e17_21 (w133 hw) (w134 hw) (w40 hw) (w135 hw) (con_charAt_144 hw G GS (pa0 := pa1) (px0 := px0) (px1 := px1) (px2 := px2) (px3 := px3) (pk0 := pk0) o5 oA_hf0 (by omega) (hk0) (hk1) hc_px0 hc_px1 hc_px2 hc_px3) pd10 ?_
  intro vq6 h7 S8 q6 zh7
  obtain ⟨rfl, rfl, rfl⟩ := q6
  refine Ow.Go.nr (S' := []) (st' := [(.int px1)]) ?_
  exact Ow.retI (S' := []) (t := .char) (hnn := (Ow.cnarrow hc_px1)) B e17_24 (⟨rfl, rfl, rfl⟩)
set_option maxRecDepth 65536 in
set_option maxHeartbeats 40000000 in
theorem con_isToken_146 (hw : Hw a0 Z) (G : Ow.Glo Z cz sf) (GS : GlS Z) {pa0 : Nat} {pa1 : Nat} {px0 : Int32} {px1 : Int32} {px2 : Int32} {px3 : Int32} {pk0 : ClassId} {h0 : Heap} (O0 : Old Z n0 h0) (hf0 : Ow.Chs Z h0 pa0 pa1 pk0 [px0, px1, px2, px3]) (hn0 : n0 ≤ pa0) (hn1 : n0 ≤ pa1) (hk0 : ¬ (px0 < (0 : Int32))) (hk1 : ¬ ((65535 : Int32) < px0)) (hk2 : ¬ (px1 < (0 : Int32))) (hk3 : ¬ ((65535 : Int32) < px1)) (hk4 : tokP px0) (hk5 : ¬ (tokP px1)) (hc_px0 : nar .char px0 = px0) (hc_px1 : nar .char px1 = px1) (hc_px2 : nar .char px2 = px2) (hc_px3 : nar .char px3 = px3) :
    Ow.Con l Z EL1 n0 my4 prog_28_method_5_code 4 (Option.some Jvm.ClassFile.FieldType.boolean) [] ({ frames := 5, cells := 4, slots := 128, locals := 66 } : Room) #[(.ref pa0)] [] h0 (fun v h S' => (v = some (.int 0) ∧ Keep h0 h [] ∧ ¬ (symP px1) ∧ S' = [])) := by
 refine Ow.Con.enter (Ls := #[.val (.ref pa0), .unset, .unset, .unset]) (plainFor_of_name pn2) O0 (hEW hw) (hSA hw) ?_
 intro p e s m below meth c B
 have z0 := Ow.old_le O0
 have lpa0 : (pa0 : Nat) < h0.size := hf0.lt
 have lpa1 : (pa1 : Nat) < h0.size := hf0.ltt
 refine Ow.aloadN (pc' := 1) B e0_0 ?_
 refine Ow.Go.old (fun o1 => ?_)
 refine Ow.callVirtual (pc' := 4) (W := 0) (k' := 0) (n' := 0) (argsL := []) (rest := []) (K := "java/lang/String") B e0_1 (w32 hw) (w33 hw) (w35 hw) (w35 hw) (w34 hw) (w8 hw) (w36 hw) (hf0).1 (con_isEmpty_132 hw G GS (pa0 := pa0) (pa1 := pa1) (px0 := px0) (px1 := px1) (px2 := px2) (px3 := px3) (pk0 := pk0) o1 hf0 (by omega) (by omega) hc_px0 hc_px1 hc_px2 hc_px3) pd3 ?_
 intro vq2 h3 S4 q2 zh3
 obtain ⟨rfl, rfl, rfl⟩ := q2
 refine Ow.Go.nr (S' := []) (st' := [(.int 0)]) ?_
 refine Ow.ifT (pc' := 9) B e0_4 (by decide) ?_
 refine Ow.iconst (pc' := 10) (x := 0) B e0_9 ?_
 refine Ow.istoreN (pc' := 11) (Ls' := #[.val (.ref pa0), .val (.int 0), .unset, .unset]) B e0_10 ?_
 refine Ow.iloadN (pc' := 12) B e0_11 ?_
 refine Ow.aloadN (pc' := 13) B e0_12 ?_
 refine Ow.Go.old (fun o5 => ?_)
 refine Ow.callVirtual (pc' := 16) (W := 1) (k' := 0) (n' := 0) (argsL := []) (rest := [(.int 0)]) (K := "java/lang/String") B e0_13 (w51 hw) (w52 hw) (w54 hw) (w54 hw) (w53 hw) (w8 hw) (w55 hw) (hf0).1 (con_length_133 hw G GS (pa0 := pa0) (pa1 := pa1) (px0 := px0) (px1 := px1) (px2 := px2) (px3 := px3) (pk0 := pk0) o5 hf0 (by omega) (by omega) hc_px0 hc_px1 hc_px2 hc_px3) pd14 ?_
 intro vq6 h7 S8 q6 zh7
 obtain ⟨rfl, rfl, rfl⟩ := q6
 refine Ow.Go.nr (S' := []) (st' := [(.int 4), (.int 0)]) ?_
 refine Ow.icmpF (pc' := 19) B e0_16 (by decide) ?_
 refine Ow.aloadN (pc' := 20) B e0_19 ?_
 refine Ow.iloadN (pc' := 21) B e0_20 ?_
 refine Ow.Go.old (fun o9 => ?_)
 refine Ow.callVirtual (pc' := 24) (W := 0) (k' := 0) (n' := 0) (argsL := [(.int 0)]) (rest := []) (K := "java/lang/String") B e0_21 (w61 hw) (w62 hw) (w64 hw) (w64 hw) (w63 hw) (w8 hw) (w65 hw) (hf0).1 (con_charAt_139 hw G GS (pa0 := pa0) (pa1 := pa1) (px0 := px0) (px1 := px1) (px2 := px2) (px3 := px3) (pk0 := pk0) o9 hf0 (by omega) (by omega) (hk0) (hk1) hc_px0 hc_px1 hc_px2 hc_px3) pd19 ?_
 intro vq10 h11 S12 q10 zh11
 obtain ⟨rfl, rfl, rfl⟩ := q10
 refine Ow.Go.nr (S' := []) (st' := [(.int px0)]) ?_
 refine Ow.istoreN (pc' := 25) (Ls' := #[.val (.ref pa0), .val (.int 0), .val (.int px0), .unset]) B e0_24 ?_
 refine Ow.Go.joinH (α := Int32) (pc1 := 82) (k1 := 2) (n1 := 64) (fun b => #[.val (.ref pa0), .val (.int 0), .val (.int px0), .val (.int b)]) (fun _ => []) ?_ ?_
 ·intro h14 Kh14 b13
  have zh14 := Kh14.1
  refine Ow.iinc (pc' := 85) (y := 1) (Ls' := #[.val (.ref pa0), .val (.int 1), .val (.int px0), .val (.int b13)]) B e0_82 ?_
  refine Ow.goto (pc' := 11) B e0_85 ?_
  refine Ow.iloadN (pc' := 12) B e0_11 ?_
  refine Ow.aloadN (pc' := 13) B e0_12 ?_
  refine Ow.Go.old (fun o15 => ?_)
  have f16 := hf0.keep Kh14 Ow.nin0 Ow.nin0
  refine Ow.callVirtual (pc' := 16) (W := 1) (k' := 2) (n' := 64) (argsL := []) (rest := [(.int 1)]) (K := "java/lang/String") B e0_13 (w51 hw) (w52 hw) (w54 hw) (w54 hw) (w53 hw) (w8 hw) (w55 hw) (f16).1 (con_length_133 hw G GS (pa0 := pa0) (pa1 := pa1) (px0 := px0) (px1 := px1) (px2 := px2) (px3 := px3) (pk0 := pk0) o15 f16 (by omega) (by omega) hc_px0 hc_px1 hc_px2 hc_px3) pd14 ?_
  intro vq17 h18 S19 q17 zh18
  obtain ⟨rfl, rfl, rfl⟩ := q17
  refine Ow.Go.nr (S' := []) (st' := [(.int 4), (.int 1)]) ?_
  refine Ow.icmpF (pc' := 19) B e0_16 (by decide) ?_
  refine Ow.aloadN (pc' := 20) B e0_19 ?_
  refine Ow.iloadN (pc' := 21) B e0_20 ?_
  refine Ow.Go.old (fun o20 => ?_)
  refine Ow.callVirtual (pc' := 24) (W := 0) (k' := 2) (n' := 64) (argsL := [(.int 1)]) (rest := []) (K := "java/lang/String") B e0_21 (w61 hw) (w62 hw) (w64 hw) (w64 hw) (w63 hw) (w8 hw) (w65 hw) (f16).1 (con_charAt_145 hw G GS (pa0 := pa0) (pa1 := pa1) (px0 := px0) (px1 := px1) (px2 := px2) (px3 := px3) (pk0 := pk0) o20 f16 (by omega) (by omega) (hk2) (hk3) hc_px0 hc_px1 hc_px2 hc_px3) pd19 ?_
  intro vq21 h22 S23 q21 zh22
  obtain ⟨rfl, rfl, rfl⟩ := q21
  refine Ow.Go.nr (S' := []) (st' := [(.int px1)]) ?_
  refine Ow.istoreN (pc' := 25) (Ls' := #[.val (.ref pa0), .val (.int 1), .val (.int px1), .val (.int b13)]) B e0_24 ?_
  by_cases c24 : alP px1
  ·exact absurd (Or.inl c24) (hk5)
  ·refine blk_no_b hw B (pb := b13) ⟨hk2, hk3⟩ c24 (fun b25 => ?_)
   refine Ow.ldcText (pc' := 73) (k' := 4) (n' := 128) (nn := 60) (vs := [(.int 33), (.int 35), (.int 36), (.int 37), (.int 38), (.int 39), (.int 42), (.int 43), (.int 45), (.int 46), (.int 94), (.int 95), (.int 96), (.int 124), (.int 126)]) (z := 15) B e0_71 (w83 hw) (by decide) ⟨by decide, by decide⟩ (by decide) (by decide) ?_
   intro h27 a26 t28 kt28 Kh27 Ea26 Ca26 Va26 At28 Na26
   have zh27 := Kh27.1
   have la26 : (a26 : Nat) < h27.size := Ea26.lt
   have lt28 : (t28 : Nat) < h27.size := At28.lt
   refine Ow.iloadN (pc' := 74) B e0_73 ?_
   refine Ow.Go.old (fun o29 => ?_)
   refine Ow.callVirtual (pc' := 77) (W := 0) (k' := 4) (n' := 128) (argsL := [(.int px1)]) (rest := []) (K := "java/lang/String") B e0_74 (w84 hw) (w85 hw) (w87 hw) (w87 hw) (w86 hw) (w8 hw) (w88 hw) Ea26 (con_indexOf_43 hw G GS (pa0 := a26) (pa1 := t28) (px0 := px1) (pk0 := kt28) o29 Ea26 Ca26 Va26 At28 (hk2) hc_px1) pd6 ?_
   intro vq30 h31 S32 q30 zh31
   rcases q30 with q30 | q30
   ·obtain ⟨y33, rfl, rfl, c34, c35, rfl⟩ := q30
    refine Ow.Go.nr (S' := []) (st' := [(.int y33)]) ?_
    refine Ow.ifF (pc' := 80) B e0_77 (tlt (c35)).2.1 ?_
    refine Ow.iconst (pc' := 81) (x := 0) B e0_80 ?_
    exact Ow.retI (S' := []) (t := .boolean) B e0_81 (⟨rfl, (((Keep.refl _ []).trans Kh14 (fun _ q => nomatch q)).trans Kh27 (fun _ q => nomatch q)), c34, rfl⟩)
   ·obtain ⟨y36, rfl, rfl, c37, c38, rfl⟩ := q30
    refine Ow.Go.nr (S' := []) (st' := [(.int y36)]) ?_
    refine Ow.ifT (pc' := 82) B e0_77 (flt (c38)).2.1 ?_
    exact absurd (Or.inr (c37)) (hk5)
 ·intro J39
  by_cases c40 : alP px0
  ·refine blk_al_u hw B (pb := 0) ⟨hk0, hk1⟩ c40 (fun b41 => ?_)
   exact Ow.Go.mono (k' := 2) (n' := 64) (by decide) (by decide) (by simp) (J39 _ (Keep.refl _ []) _)
  ·refine blk_no_u hw B (pb := 0) ⟨hk0, hk1⟩ c40 (fun b42 => ?_)
   refine Ow.ldcText (pc' := 73) (k' := 2) (n' := 64) (nn := 60) (vs := [(.int 33), (.int 35), (.int 36), (.int 37), (.int 38), (.int 39), (.int 42), (.int 43), (.int 45), (.int 46), (.int 94), (.int 95), (.int 96), (.int 124), (.int 126)]) (z := 15) B e0_71 (w83 hw) (by decide) ⟨by decide, by decide⟩ (by decide) (by decide) ?_
   intro h44 a43 t45 kt45 Kh44 Ea43 Ca43 Va43 At45 Na43
   have zh44 := Kh44.1
   have la43 : (a43 : Nat) < h44.size := Ea43.lt
   have lt45 : (t45 : Nat) < h44.size := At45.lt
   refine Ow.iloadN (pc' := 74) B e0_73 ?_
   refine Ow.Go.old (fun o46 => ?_)
   refine Ow.callVirtual (pc' := 77) (W := 0) (k' := 2) (n' := 64) (argsL := [(.int px0)]) (rest := []) (K := "java/lang/String") B e0_74 (w84 hw) (w85 hw) (w87 hw) (w87 hw) (w86 hw) (w8 hw) (w88 hw) Ea43 (con_indexOf_43 hw G GS (pa0 := a43) (pa1 := t45) (px0 := px0) (pk0 := kt45) o46 Ea43 Ca43 Va43 At45 (hk0) hc_px0) pd6 ?_
   intro vq47 h48 S49 q47 zh48
   rcases q47 with q47 | q47
   ·obtain ⟨y50, rfl, rfl, c51, c52, rfl⟩ := q47
    refine Ow.Go.nr (S' := []) (st' := [(.int y50)]) ?_
    refine Ow.ifF (pc' := 80) B e0_77 (tlt (c52)).2.1 ?_
    exact absurd (hk4) (fun q => q.elim (fun q => c40 q) (c51))
   ·obtain ⟨y53, rfl, rfl, c54, c55, rfl⟩ := q47
    refine Ow.Go.nr (S' := []) (st' := [(.int y53)]) ?_
    refine Ow.ifT (pc' := 82) B e0_77 (flt (c55)).2.1 ?_
    exact Ow.Go.mono (k' := 2) (n' := 64) (by decide) (by decide) (by simp) (J39 _ ((Keep.refl _ []).trans Kh44 (fun _ q => nomatch q)) _)
set_option maxRecDepth 65536 in
set_option maxHeartbeats 40000000 in
theorem seg132_12 (hw : Hw a0 Z) (G : Ow.Glo Z cz sf) (GS : GlS Z) {pa0 : Nat} {pa1 : Nat} {px0 : Int32} {px1 : Int32} {px2 : Int32} {px3 : Int32} {pk0 : ClassId} {dl0 : Int32} {dl1 : Int32} {dl2 : Int32} {dl3 : Int32} {dl4 : Int32} {dl5 : Int32} {dl6 : Int32} {dl7 : Int32} {dl8 : Int32} {dl9 : Int32} {p : Program} {e : Env} {s : State} {m : MethodId} {args : Array Value} {below : List Frame} {meth : Method} {c : ClassFile.Code} (B : Ow.Bdy p meth c Z EL1 a0 code maxLocals ret x.name) {h0 : Heap} (O0 : Old Z n0 h0) (hf0 : Ow.Chs Z h0 pa0 pa1 pk0 [px0, px1, px2, px3]) (hn0 : n0 ≤ pa0) (hn1 : n0 ≤ pa1) (hk0 : ¬ (px0 < (0 : Int32))) (hk1 : ¬ ((65535 : Int32) < px0)) (hk2 : ¬ (px1 < (0 : Int32))) (hk3 : ¬ ((65535 : Int32) < px1)) (hk4 : tokP px0) (hk5 : ¬ (tokP px1)) (hc_px0 : nar .char px0 = px0) (hc_px1 : nar .char px1 = px1) (hc_px2 : nar .char px2 = px2) (hc_px3 : nar .char px3 = px3) :
  Ow.Go p l e room_1 s m args below meth c Z EL1 n0 x.cls (fun v _ _ => v = some (.int 1)) [] h0 20 2048 132 #[.val (.int dl0), .val (.int dl1), .val (.int dl2), .val (.int dl3), .val (.int dl4), .val (.int dl5), .val (.int dl6), .val (.int dl7), .val (.int dl8), .val (.int dl9), .val (.ref pa0), .val (.int 0)] [] := by
 have z0 := Ow.old_le O0
 have lpa0 : (pa0 : Nat) < h0.size := hf0.lt
 have lpa1 : (pa1 : Nat) < h0.size := hf0.ltt
 refine Ow.aload (pc' := 134) B at_132 ?_
 refine Ow.Go.old (fun o1 => ?_)
 refine Ow.callStatic (pc' := 137) (W := 0) (k' := 24) (n' := 2176) (argsL := [(.ref pa0)]) (rest := []) B at_134 (w28 hw) (w29 hw) (w30 hw) (w31 hw) (con_isToken_146 hw G GS (pa0 := pa0) (pa1 := pa1) (px0 := px0) (px1 := px1) (px2 := px2) (px3 := px3) (pk0 := pk0) o1 hf0 (by omega) (by omega) (hk0) (hk1) (hk2) (hk3) (hk4) (hk5) hc_px0 hc_px1 hc_px2 hc_px3) pd4 ?_
 intro vq2 h3 S4 q2 zh3
 obtain ⟨rfl, Kh3, c5, rfl⟩ := q2
 refine Ow.Go.nr (S' := []) (st' := [(.int 0)]) ?_
 refine Ow.iload (pc' := 139) B at_137 ?_
 refine Ow.icmpF (pc' := 142) B at_139 (by decide) ?_
 refine Ow.iconst (pc' := 143) (x := 1) B at_142 ?_
 refine Ow.goto (pc' := 147) B at_143 ?_
 exact Ow.retI (S' := []) (t := .boolean) B at_147 (rfl)
set_option maxRecDepth 65536 in
set_option maxHeartbeats 40000000 in
theorem con_charAt_147 (hw : Hw a0 Z) (G : Ow.Glo Z cz sf) (GS : GlS Z) {pa0 : Nat} {px0 : Int32} {px1 : Int32} {px2 : Int32} {px3 : Int32} {pk0 : ClassId} {h0 : Heap} (O0 : Old Z n0 h0) (hf0 : Arv Z h0 pa0 pk0 .byte (4 : Int32) [(.int px0.toInt8.toInt32), (.int px1.toInt8.toInt32), (.int px2.toInt8.toInt32), (.int px3.toInt8.toInt32)] (.int 0)) (hn0 : n0 ≤ pa0) (hk0 : ¬ (px2 < (0 : Int32))) (hk1 : ¬ ((255 : Int32) < px2)) (hc_px0 : nar .char px0 = px0) (hc_px1 : nar .char px1 = px1) (hc_px2 : nar .char px2 = px2) (hc_px3 : nar .char px3 = px3) :
    Ow.Con l Z EL1 n0 my20 jdk_43_method_2_code 2 (Option.some Jvm.ClassFile.FieldType.char) [] ({ frames := 2, cells := 0, slots := 0, locals := 27 } : Room) #[(.ref pa0), (.int 2)] [] h0 (fun v h S' => (v = some (.int px2) ∧ h = h0 ∧ S' = [])) := by
 refine Ow.Con.enter (Ls := #[.val (.ref pa0), .val (.int 2)]) (plainFor_of_name pn4) O0 (hEW hw) (hSA hw) ?_
 intro p e s m below meth c B
 have z0 := Ow.old_le O0
 have lpa0 : (pa0 : Nat) < h0.size := hf0.lt
 refine Ow.iloadN (pc' := 1) B e19_0 ?_
 refine Ow.aloadN (pc' := 2) B e19_1 ?_
 refine Ow.arrlen (pc' := 3) B e19_2 hf0 ?_
 refine Ow.Go.old (fun o1 => ?_)
 refine Ow.callStatic (pc' := 6) (W := 0) (k' := 0) (n' := 0) (argsL := [(.int 2), (.int 4)]) (rest := []) B e19_3 (w75 hw) (w76 hw) (w8 hw) (w77 hw) (con_checkIndex_26 hw G GS (px0 := (2 : Int32)) (px1 := (4 : Int32)) o1 (by decide) (by decide)) pd16 ?_
 intro vq2 h3 S4 q2 zh3
 obtain ⟨rfl, rfl, rfl⟩ := q2
 refine Ow.Go.nr (S' := []) (st' := []) ?_
 refine Ow.aloadN (pc' := 7) B e19_6 ?_
 refine Ow.iloadN (pc' := 8) B e19_7 ?_
 refine Ow.baload (pc' := 9) B e19_8 hf0 ⟨by decide, by decide⟩ rfl ?_
 refine Ow.sipush (pc' := 12) (x := 255) B e19_9 ?_
 refine Ow.iand (pc' := 13) (z := px2) (hz := (Ow.b255 (hk0) (hk1))) B e19_12 ?_
 refine Ow.i2c (pc' := 14) (z := px2) (hz := (Ow.c_id (hk0) (hk1))) B e19_13 ?_
 exact Ow.retI (S' := []) (t := .char) (hnn := (Ow.cnarrow (Ow.nar_id (hk0) (hk1)))) B e19_14 (⟨rfl, rfl, rfl⟩)
set_option maxRecDepth 65536 in
set_option maxHeartbeats 40000000 in
theorem con_checkIndex_148 (hw : Hw a0 Z) (G : Ow.Glo Z cz sf) (GS : GlS Z) {pa0 : Nat} {px0 : Int32} {px1 : Int32} {px2 : Int32} {px3 : Int32} {pk0 : ClassId} {h0 : Heap} (O0 : Old Z n0 h0) (hf0 : Arv Z h0 pa0 pk0 .byte (8 : Int32) [(.int px0.toInt8.toInt32), (.int (px0 >>> ((8 : Int32) &&& 31)).toInt8.toInt32), (.int px1.toInt8.toInt32), (.int (px1 >>> ((8 : Int32) &&& 31)).toInt8.toInt32), (.int px2.toInt8.toInt32), (.int (px2 >>> ((8 : Int32) &&& 31)).toInt8.toInt32), (.int px3.toInt8.toInt32), (.int (px3 >>> ((8 : Int32) &&& 31)).toInt8.toInt32)] (.int 0)) (hn0 : n0 ≤ pa0) (hc_px0 : nar .char px0 = px0) (hc_px1 : nar .char px1 = px1) (hc_px2 : nar .char px2 = px2) (hc_px3 : nar .char px3 = px3) :
    Ow.Con l Z EL1 n0 my22 jdk_52_method_91_code 2 (Option.none : Option Jvm.ClassFile.FieldType) [] ({ frames := 2, cells := 0, slots := 0, locals := 27 } : Room) #[(.int 2), (.ref pa0)] [] h0 (fun v h S' => (v = none ∧ h = h0 ∧ S' = [])) := by
 refine Ow.Con.enter (Ls := #[.val (.int 2), .val (.ref pa0)]) (plainFor_of_name pn3) O0 (hEW hw) (hSA hw) ?_
 intro p e s m below meth c B
 have z0 := Ow.old_le O0
 have lpa0 : (pa0 : Nat) < h0.size := hf0.lt
 refine Ow.iloadN (pc' := 1) B e23_0 ?_
 refine Ow.aloadN (pc' := 2) B e23_1 ?_
 refine Ow.Go.old (fun o1 => ?_)
 refine Ow.callStatic (pc' := 5) (W := 1) (k' := 0) (n' := 0) (argsL := [(.ref pa0)]) (rest := [(.int 2)]) B e23_2 (w139 hw) (w140 hw) (w40 hw) (w141 hw) (con_length_135 hw G GS (pa0 := pa0) (px0 := px0) (px1 := px1) (px2 := px2) (px3 := px3) (pk0 := pk0) o1 hf0 (by omega) hc_px0 hc_px1 hc_px2 hc_px3) pd17 ?_
 intro vq2 h3 S4 q2 zh3
 obtain ⟨rfl, rfl, rfl⟩ := q2
 refine Ow.Go.nr (S' := []) (st' := [(.int 4), (.int 2)]) ?_
 refine Ow.Go.old (fun o5 => ?_)
 refine Ow.callStatic (pc' := 8) (W := 0) (k' := 0) (n' := 0) (argsL := [(.int 2), (.int 4)]) (rest := []) B e23_5 (w142 hw) (w76 hw) (w8 hw) (w77 hw) (con_checkIndex_26 hw G GS (px0 := (2 : Int32)) (px1 := (4 : Int32)) o5 (by decide) (by decide)) pd16 ?_
 intro vq6 h7 S8 q6 zh7
 obtain ⟨rfl, rfl, rfl⟩ := q6
 refine Ow.Go.nr (S' := []) (st' := []) ?_
 exact Ow.retV (S' := []) B e23_8 (⟨rfl, rfl, rfl⟩)
set_option maxRecDepth 65536 in
set_option maxHeartbeats 40000000 in
theorem con_getChar_149 (hw : Hw a0 Z) (G : Ow.Glo Z cz sf) (GS : GlS Z) {pa0 : Nat} {px0 : Int32} {px1 : Int32} {px2 : Int32} {px3 : Int32} {pk0 : ClassId} {h0 : Heap} (O0 : Old Z n0 h0) (hf0 : Arv Z h0 pa0 pk0 .byte (8 : Int32) [(.int px0.toInt8.toInt32), (.int (px0 >>> ((8 : Int32) &&& 31)).toInt8.toInt32), (.int px1.toInt8.toInt32), (.int (px1 >>> ((8 : Int32) &&& 31)).toInt8.toInt32), (.int px2.toInt8.toInt32), (.int (px2 >>> ((8 : Int32) &&& 31)).toInt8.toInt32), (.int px3.toInt8.toInt32), (.int (px3 >>> ((8 : Int32) &&& 31)).toInt8.toInt32)] (.int 0)) (hn0 : n0 ≤ pa0) (hk0 : ¬ (px2 < (0 : Int32))) (hk1 : ¬ ((65535 : Int32) < px2)) (hc_px0 : nar .char px0 = px0) (hc_px1 : nar .char px1 = px1) (hc_px2 : nar .char px2 = px2) (hc_px3 : nar .char px3 = px3) :
    Ow.Con l Z EL1 n0 my10 jdk_52_method_5_code 2 (Option.some Jvm.ClassFile.FieldType.char) [] ({ frames := 0, cells := 0, slots := 0, locals := 0 } : Room) #[(.ref pa0), (.int 2)] [] h0 (fun v h S' => (v = some (.int px2) ∧ h = h0 ∧ S' = [])) := by
 refine Ow.Con.enter (Ls := #[.val (.ref pa0), .val (.int 2)]) (plainFor_of_name pn3) O0 (hEW hw) (hSA hw) ?_
 intro p e s m below meth c B
 have z0 := Ow.old_le O0
 have lpa0 : (pa0 : Nat) < h0.size := hf0.lt
 refine Ow.getstatic (pc' := 3) B e11_0 (w127 hw) Via.refl GS.1 ?_
 refine Ow.ifT (pc' := 28) B e11_3 (by decide) ?_
 refine Ow.iloadN (pc' := 29) B e11_28 ?_
 refine Ow.iconst (pc' := 30) (x := 1) B e11_29 ?_
 refine Ow.ishl (pc' := 31) (z := 4) B e11_30 ?_
 refine Ow.istoreN (pc' := 32) (Ls' := #[.val (.ref pa0), .val (.int 4)]) B e11_31 ?_
 refine Ow.aloadN (pc' := 33) B e11_32 ?_
 refine Ow.iloadN (pc' := 34) B e11_33 ?_
 refine Ow.iinc (pc' := 37) (y := 5) (Ls' := #[.val (.ref pa0), .val (.int 5)]) B e11_34 ?_
 refine Ow.baload (pc' := 38) B e11_37 hf0 ⟨by decide, by decide⟩ rfl ?_
 refine Ow.sipush (pc' := 41) (x := 255) B e11_38 ?_
 refine Ow.iand (pc' := 42) (z := (px2.toInt8.toInt32 &&& (255 : Int32))) B e11_41 ?_
 refine Ow.getstatic (pc' := 45) B e11_42 (w128 hw) Via.refl GS.2.1 ?_
 refine Ow.ishl (pc' := 46) (z := ((px2.toInt8.toInt32 &&& (255 : Int32)) <<< ((0 : Int32) &&& 31))) B e11_45 ?_
 refine Ow.aloadN (pc' := 47) B e11_46 ?_
 refine Ow.iloadN (pc' := 48) B e11_47 ?_
 refine Ow.baload (pc' := 49) B e11_48 hf0 ⟨by decide, by decide⟩ rfl ?_
 refine Ow.sipush (pc' := 52) (x := 255) B e11_49 ?_
 refine Ow.iand (pc' := 53) (z := ((px2 >>> ((8 : Int32) &&& 31)).toInt8.toInt32 &&& (255 : Int32))) B e11_52 ?_
 refine Ow.getstatic (pc' := 56) B e11_53 (w129 hw) Via.refl GS.2.2 ?_
 refine Ow.ishl (pc' := 57) (z := (((px2 >>> ((8 : Int32) &&& 31)).toInt8.toInt32 &&& (255 : Int32)) <<< ((8 : Int32) &&& 31))) B e11_56 ?_
 refine Ow.ior (pc' := 58) (z := px2) (hz := (Ow.u16 (hk0) (hk1))) B e11_57 ?_
 refine Ow.i2c (pc' := 59) (z := px2) (hz := hc_px2) B e11_58 ?_
 exact Ow.retI (S' := []) (t := .char) (hnn := (Ow.cnarrow hc_px2)) B e11_59 (⟨rfl, rfl, rfl⟩)
set_option maxRecDepth 65536 in
set_option maxHeartbeats 40000000 in
theorem con_charAt_150 (hw : Hw a0 Z) (G : Ow.Glo Z cz sf) (GS : GlS Z) {pa0 : Nat} {px0 : Int32} {px1 : Int32} {px2 : Int32} {px3 : Int32} {pk0 : ClassId} {h0 : Heap} (O0 : Old Z n0 h0) (hf0 : Arv Z h0 pa0 pk0 .byte (8 : Int32) [(.int px0.toInt8.toInt32), (.int (px0 >>> ((8 : Int32) &&& 31)).toInt8.toInt32), (.int px1.toInt8.toInt32), (.int (px1 >>> ((8 : Int32) &&& 31)).toInt8.toInt32), (.int px2.toInt8.toInt32), (.int (px2 >>> ((8 : Int32) &&& 31)).toInt8.toInt32), (.int px3.toInt8.toInt32), (.int (px3 >>> ((8 : Int32) &&& 31)).toInt8.toInt32)] (.int 0)) (hn0 : n0 ≤ pa0) (hk0 : ¬ (px2 < (0 : Int32))) (hk1 : ¬ ((65535 : Int32) < px2)) (hc_px0 : nar .char px0 = px0) (hc_px1 : nar .char px1 = px1) (hc_px2 : nar .char px2 = px2) (hc_px3 : nar .char px3 = px3) :
    Ow.Con l Z EL1 n0 my23 jdk_52_method_83_code 2 (Option.some Jvm.ClassFile.FieldType.char) [] ({ frames := 3, cells := 0, slots := 0, locals := 40 } : Room) #[(.ref pa0), (.int 2)] [] h0 (fun v h S' => (v = some (.int px2) ∧ h = h0 ∧ S' = [])) := by
 refine Ow.Con.enter (Ls := #[.val (.ref pa0), .val (.int 2)]) (plainFor_of_name pn3) O0 (hEW hw) (hSA hw) ?_
 intro p e s m below meth c B
 have z0 := Ow.old_le O0
 have lpa0 : (pa0 : Nat) < h0.size := hf0.lt
 refine Ow.iloadN (pc' := 1) B e22_0 ?_
 refine Ow.aloadN (pc' := 2) B e22_1 ?_
 refine Ow.Go.old (fun o1 => ?_)
 refine Ow.callStatic (pc' := 5) (W := 0) (k' := 0) (n' := 0) (argsL := [(.int 2), (.ref pa0)]) (rest := []) B e22_2 (w136 hw) (w137 hw) (w40 hw) (w138 hw) (con_checkIndex_148 hw G GS (pa0 := pa0) (px0 := px0) (px1 := px1) (px2 := px2) (px3 := px3) (pk0 := pk0) o1 hf0 (by omega) hc_px0 hc_px1 hc_px2 hc_px3) pd18 ?_
 intro vq2 h3 S4 q2 zh3
 obtain ⟨rfl, rfl, rfl⟩ := q2
 refine Ow.Go.nr (S' := []) (st' := []) ?_
 refine Ow.aloadN (pc' := 6) B e22_5 ?_
 refine Ow.iloadN (pc' := 7) B e22_6 ?_
 refine Ow.Go.old (fun o5 => ?_)
 refine Ow.callStatic (pc' := 10) (W := 0) (k' := 0) (n' := 0) (argsL := [(.ref pa0), (.int 2)]) (rest := []) B e22_7 (w130 hw) (w131 hw) (w40 hw) (w132 hw) (con_getChar_149 hw G GS (pa0 := pa0) (px0 := px0) (px1 := px1) (px2 := px2) (px3 := px3) (pk0 := pk0) o5 hf0 (by omega) (hk0) (hk1) hc_px0 hc_px1 hc_px2 hc_px3) pd10 ?_
 intro vq6 h7 S8 q6 zh7
 obtain ⟨rfl, rfl, rfl⟩ := q6
 refine Ow.Go.nr (S' := []) (st' := [(.int px2)]) ?_
 exact Ow.retI (S' := []) (t := .char) (hnn := (Ow.cnarrow hc_px2)) B e22_10 (⟨rfl, rfl, rfl⟩)
set_option maxRecDepth 65536 in
set_option maxHeartbeats 40000000 in
theorem con_charAt_151 (hw : Hw a0 Z) (G : Ow.Glo Z cz sf) (GS : GlS Z) {pa0 : Nat} {pa1 : Nat} {px0 : Int32} {px1 : Int32} {px2 : Int32} {px3 : Int32} {pk0 : ClassId} {h0 : Heap} (O0 : Old Z n0 h0) (hf0 : Ow.Chs Z h0 pa0 pa1 pk0 [px0, px1, px2, px3]) (hn0 : n0 ≤ pa0) (hn1 : n0 ≤ pa1) (hk0 : ¬ (px2 < (0 : Int32))) (hk1 : ¬ ((65535 : Int32) < px2)) (hc_px0 : nar .char px0 = px0) (hc_px1 : nar .char px1 = px1) (hc_px2 : nar .char px2 = px2) (hc_px3 : nar .char px3 = px3) :
    Ow.Con l Z EL1 n0 my24 jdk_42_method_56_code 2 (Option.some Jvm.ClassFile.FieldType.char) [] ({ frames := 4, cells := 0, slots := 0, locals := 53 } : Room) #[(.ref pa0), (.int 2)] [] h0 (fun v h S' => (v = some (.int px2) ∧ h = h0 ∧ S' = [])) := by
 rcases hf0.2.2.2 with ⟨oc_hf0, oa_hf0, ol_hf0⟩ | ⟨oc_hf0, oa_hf0, ou_hf0⟩
 ·refine Ow.Con.enter (Ls := #[.val (.ref pa0), .val (.int 2)]) (plainFor_of_name pn1) O0 (hEW hw) (hSA hw) ?_
  intro p e s m below meth c B
  have z0 := Ow.old_le O0
  have oE_hf0 := hf0.1
  have oV_hf0 := hf0.2.1
  have oR_hf0 := hf0.2.2.1
  have oA_hf0 : Arv Z h0 pa1 pk0 .byte (4 : Int32) [(.int px0.toInt8.toInt32), (.int px1.toInt8.toInt32), (.int px2.toInt8.toInt32), (.int px3.toInt8.toInt32)] (.int 0) := oa_hf0
  have lpa0 : (pa0 : Nat) < h0.size := hf0.lt
  have lpa1 : (pa1 : Nat) < h0.size := oA_hf0.lt
  have lpa1 : (pa1 : Nat) < h0.size := hf0.ltt
  refine Ow.aloadN (pc' := 1) B e17_0 ?_
  refine Ow.Go.old (fun o1 => ?_)
  refine Ow.callVirtual (pc' := 4) (W := 0) (k' := 0) (n' := 0) (argsL := []) (rest := []) (K := "java/lang/String") B e17_1 (w66 hw) (w67 hw) (w69 hw) (w69 hw) (w68 hw) (w8 hw) (w70 hw) oE_hf0 (con_isLatin1_24 hw G GS (pa0 := pa0) o1 oc_hf0 (by omega)) pd3 ?_
  intro vq2 h3 S4 q2 zh3
  obtain ⟨rfl, rfl, rfl⟩ := q2
  refine Ow.Go.nr (S' := []) (st' := [(.int 1)]) ?_
  refine Ow.ifF (pc' := 7) B e17_4 (by decide) ?_
  refine Ow.aloadN (pc' := 8) B e17_7 ?_
  refine Ow.getfield (pc' := 11) B e17_8 (w26 hw) Via.refl oV_hf0 ?_
  refine Ow.iloadN (pc' := 12) B e17_11 ?_
  refine Ow.Go.old (fun o5 => ?_)
  refine Ow.callStatic (pc' := 15) (W := 0) (k' := 0) (n' := 0) (argsL := [(.ref pa1), (.int 2)]) (rest := []) B e17_12 (w71 hw) (w72 hw) (w73 hw) (w74 hw) (con_charAt_147 hw G GS (pa0 := pa1) (px0 := px0) (px1 := px1) (px2 := px2) (px3 := px3) (pk0 := pk0) o5 oA_hf0 (by omega) (hk0) (ol_hf0 px2 (by simp)) hc_px0 hc_px1 hc_px2 hc_px3) pd10 ?_
  intro vq6 h7 S8 q6 zh7
  obtain ⟨rfl, rfl, rfl⟩ := q6
  refine Ow.Go.nr (S' := []) (st' := [(.int px2)]) ?_
  exact Ow.retI (S' := []) (t := .char) (hnn := (Ow.cnarrow hc_px2)) B e17_15 (⟨rfl, rfl, rfl⟩)
 ·refine Ow.Con.enter (Ls := #[.val (.ref pa0), .val (.int 2)]) (plainFor_of_name pn1) O0 (hEW hw) (hSA hw) ?_
  intro p e s m below meth c B
  have z0 := Ow.old_le O0
  have oE_hf0 := hf0.1
  have oV_hf0 := hf0.2.1
  have oR_hf0 := hf0.2.2.1
  have oA_hf0 : Arv Z h0 pa1 pk0 .byte (8 : Int32) [(.int px0.toInt8.toInt32), (.int (px0 >>> ((8 : Int32) &&& 31)).toInt8.toInt32), (.int px1.toInt8.toInt32), (.int (px1 >>> ((8 : Int32) &&& 31)).toInt8.toInt32), (.int px2.toInt8.toInt32), (.int (px2 >>> ((8 : Int32) &&& 31)).toInt8.toInt32), (.int px3.toInt8.toInt32), (.int (px3 >>> ((8 : Int32) &&& 31)).toInt8.toInt32)] (.int 0) := oa_hf0
  have lpa0 : (pa0 : Nat) < h0.size := hf0.lt
  have lpa1 : (pa1 : Nat) < h0.size := oA_hf0.lt
  have lpa1 : (pa1 : Nat) < h0.size := hf0.ltt
  refine Ow.aloadN (pc' := 1) B e17_0 ?_
  refine Ow.Go.old (fun o1 => ?_)
  refine Ow.callVirtual (pc' := 4) (W := 0) (k' := 0) (n' := 0) (argsL := []) (rest := []) (K := "java/lang/String") B e17_1 (w66 hw) (w67 hw) (w69 hw) (w69 hw) (w68 hw) (w8 hw) (w70 hw) oE_hf0 (con_isLatin1_28 hw G GS (pa0 := pa0) o1 oc_hf0 (by omega)) pd3 ?_
  intro vq2 h3 S4 q2 zh3
  obtain ⟨rfl, rfl, rfl⟩ := q2
  refine Ow.Go.nr (S' := []) (st' := [(.int 0)]) ?_
  refine Ow.ifT (pc' := 16) B e17_4 (by decide) ?_
  refine Ow.aloadN (pc' := 17) B e17_16 ?_
  refine Ow.getfield (pc' := 20) B e17_17 (w26 hw) Via.refl oV_hf0 ?_
  refine Ow.iloadN (pc' := 21) B e17_20 ?_
  refine Ow.Go.old (fun o5 => ?_)
  refine Ow.callStatic (pc' := 24) (W := 0) (k' := 0) (n' := 0) (argsL := [(.ref pa1), (.int 2)]) (rest := []) B e17_21 (w133 hw) (w134 hw) (w40 hw) (w135 hw) (con_charAt_150 hw G GS (pa0 := pa1) (px0 := px0) (px1 := px1) (px2 := px2) (px3 := px3) (pk0 := pk0) o5 oA_hf0 (by omega) (hk0) (hk1) hc_px0 hc_px1 hc_px2 hc_px3) pd10 ?_
  intro vq6 h7 S8 q6 zh7
  obtain ⟨rfl, rfl, rfl⟩ := q6
  refine Ow.Go.nr (S' := []) (st' := [(.int px2)]) ?_
  exact Ow.retI (S' := []) (t := .char) (hnn := (Ow.cnarrow hc_px2)) B e17_24 (⟨rfl, rfl, rfl⟩)
set_option maxRecDepth 65536 in
set_option maxHeartbeats 40000000 in
theorem con_isToken_152 (hw : Hw a0 Z) (G : Ow.Glo Z cz sf) (GS : GlS Z) {pa0 : Nat} {pa1 : Nat} {px0 : Int32} {px1 : Int32} {px2 : Int32} {px3 : Int32} {pk0 : ClassId} {h0 : Heap} (O0 : Old Z n0 h0) (hf0 : Ow.Chs Z h0 pa0 pa1 pk0 [px0, px1, px2, px3]) (hn0 : n0 ≤ pa0) (hn1 : n0 ≤ pa1) (hk0 : ¬ (px0 < (0 : Int32))) (hk1 : ¬ ((65535 : Int32) < px0)) (hk2 : ¬ (px1 < (0 : Int32))) (hk3 : ¬ ((65535 : Int32) < px1)) (hk4 : ¬ (px2 < (0 : Int32))) (hk5 : ¬ ((65535 : Int32) < px2)) (hk6 : tokP px0) (hk7 : tokP px1) (hk8 : ¬ (tokP px2)) (hc_px0 : nar .char px0 = px0) (hc_px1 : nar .char px1 = px1) (hc_px2 : nar .char px2 = px2) (hc_px3 : nar .char px3 = px3) :
    Ow.Con l Z EL1 n0 my4 prog_28_method_5_code 4 (Option.some Jvm.ClassFile.FieldType.boolean) [] ({ frames := 5, cells := 6, slots := 192, locals := 66 } : Room) #[(.ref pa0)] [] h0 (fun v h S' => (v = some (.int 0) ∧ Keep h0 h [] ∧ ¬ (symP px2) ∧ S' = [])) := by
 refine Ow.Con.enter (Ls := #[.val (.ref pa0), .unset, .unset, .unset]) (plainFor_of_name pn2) O0 (hEW hw) (hSA hw) ?_
 intro p e s m below meth c B
 have z0 := Ow.old_le O0
 have lpa0 : (pa0 : Nat) < h0.size := hf0.lt
 have lpa1 : (pa1 : Nat) < h0.size := hf0.ltt
 refine Ow.aloadN (pc' := 1) B e0_0 ?_
 refine Ow.Go.old (fun o1 => ?_)
 refine Ow.callVirtual (pc' := 4) (W := 0) (k' := 0) (n' := 0) (argsL := []) (rest := []) (K := "java/lang/String") B e0_1 (w32 hw) (w33 hw) (w35 hw) (w35 hw) (w34 hw) (w8 hw) (w36 hw) (hf0).1 (con_isEmpty_132 hw G GS (pa0 := pa0) (pa1 := pa1) (px0 := px0) (px1 := px1) (px2 := px2) (px3 := px3) (pk0 := pk0) o1 hf0 (by omega) (by omega) hc_px0 hc_px1 hc_px2 hc_px3) pd3 ?_
 intro vq2 h3 S4 q2 zh3
 obtain ⟨rfl, rfl, rfl⟩ := q2
 refine Ow.Go.nr (S' := []) (st' := [(.int 0)]) ?_
 refine Ow.ifT (pc' := 9) B e0_4 (by decide) ?_
 refine Ow.iconst (pc' := 10) (x := 0) B e0_9 ?_
 refine Ow.istoreN (pc' := 11) (Ls' := #[.val (.ref pa0), .val (.int 0), .unset, .unset]) B e0_10 ?_
 refine Ow.iloadN (pc' := 12) B e0_11 ?_
 refine Ow.aloadN (pc' := 13) B e0_12 ?_
 refine Ow.Go.old (fun o5 => ?_)
 refine Ow.callVirtual (pc' := 16) (W := 1) (k' := 0) (n' := 0) (argsL := []) (rest := [(.int 0)]) (K := "java/lang/String") B e0_13 (w51 hw) (w52 hw) (w54 hw) (w54 hw) (w53 hw) (w8 hw) (w55 hw) (hf0).1 (con_length_133 hw G GS (pa0 := pa0) (pa1 := pa1) (px0 := px0) (px1 := px1) (px2 := px2) (px3 := px3) (pk0 := pk0) o5 hf0 (by omega) (by omega) hc_px0 hc_px1 hc_px2 hc_px3) pd14 ?_
 intro vq6 h7 S8 q6 zh7
 obtain ⟨rfl, rfl, rfl⟩ := q6
 refine Ow.Go.nr (S' := []) (st' := [(.int 4), (.int 0)]) ?_
 refine Ow.icmpF (pc' := 19) B e0_16 (by decide) ?_
 refine Ow.aloadN (pc' := 20) B e0_19 ?_
 refine Ow.iloadN (pc' := 21) B e0_20 ?_
 refine Ow.Go.old (fun o9 => ?_)
 refine Ow.callVirtual (pc' := 24) (W := 0) (k' := 0) (n' := 0) (argsL := [(.int 0)]) (rest := []) (K := "java/lang/String") B e0_21 (w61 hw) (w62 hw) (w64 hw) (w64 hw) (w63 hw) (w8 hw) (w65 hw) (hf0).1 (con_charAt_139 hw G GS (pa0 := pa0) (pa1 := pa1) (px0 := px0) (px1 := px1) (px2 := px2) (px3 := px3) (pk0 := pk0) o9 hf0 (by omega) (by omega) (hk0) (hk1) hc_px0 hc_px1 hc_px2 hc_px3) pd19 ?_
 intro vq10 h11 S12 q10 zh11
 obtain ⟨rfl, rfl, rfl⟩ := q10
 refine Ow.Go.nr (S' := []) (st' := [(.int px0)]) ?_
 refine Ow.istoreN (pc' := 25) (Ls' := #[.val (.ref pa0), .val (.int 0), .val (.int px0), .unset]) B e0_24 ?_
 refine Ow.Go.joinH (α := Int32) (pc1 := 82) (k1 := 2) (n1 := 64) (fun b => #[.val (.ref pa0), .val (.int 0), .val (.int px0), .val (.int b)]) (fun _ => []) ?_ ?_
 ·intro h14 Kh14 b13
  have zh14 := Kh14.1
  refine Ow.iinc (pc' := 85) (y := 1) (Ls' := #[.val (.ref pa0), .val (.int 1), .val (.int px0), .val (.int b13)]) B e0_82 ?_
  refine Ow.goto (pc' := 11) B e0_85 ?_
  refine Ow.iloadN (pc' := 12) B e0_11 ?_
  refine Ow.aloadN (pc' := 13) B e0_12 ?_
  refine Ow.Go.old (fun o15 => ?_)
  have f16 := hf0.keep Kh14 Ow.nin0 Ow.nin0
  refine Ow.callVirtual (pc' := 16) (W := 1) (k' := 2) (n' := 64) (argsL := []) (rest := [(.int 1)]) (K := "java/lang/String") B e0_13 (w51 hw) (w52 hw) (w54 hw) (w54 hw) (w53 hw) (w8 hw) (w55 hw) (f16).1 (con_length_133 hw G GS (pa0 := pa0) (pa1 := pa1) (px0 := px0) (px1 := px1) (px2 := px2) (px3 := px3) (pk0 := pk0) o15 f16 (by omega) (by omega) hc_px0 hc_px1 hc_px2 hc_px3) pd14 ?_
  intro vq17 h18 S19 q17 zh18
  obtain ⟨rfl, rfl, rfl⟩ := q17
  refine Ow.Go.nr (S' := []) (st' := [(.int 4), (.int 1)]) ?_
  refine Ow.icmpF (pc' := 19) B e0_16 (by decide) ?_
  refine Ow.aloadN (pc' := 20) B e0_19 ?_
  refine Ow.iloadN (pc' := 21) B e0_20 ?_
  refine Ow.Go.old (fun o20 => ?_)
  refine Ow.callVirtual (pc' := 24) (W := 0) (k' := 2) (n' := 64) (argsL := [(.int 1)]) (rest := []) (K := "java/lang/String") B e0_21 (w61 hw) (w62 hw) (w64 hw) (w64 hw) (w63 hw) (w8 hw) (w65 hw) (f16).1 (con_charAt_145 hw G GS (pa0 := pa0) (pa1 := pa1) (px0 := px0) (px1 := px1) (px2 := px2) (px3 := px3) (pk0 := pk0) o20 f16 (by omega) (by omega) (hk2) (hk3) hc_px0 hc_px1 hc_px2 hc_px3) pd19 ?_
  intro vq21 h22 S23 q21 zh22
  obtain ⟨rfl, rfl, rfl⟩ := q21
  refine Ow.Go.nr (S' := []) (st' := [(.int px1)]) ?_
  refine Ow.istoreN (pc' := 25) (Ls' := #[.val (.ref pa0), .val (.int 1), .val (.int px1), .val (.int b13)]) B e0_24 ?_
  refine Ow.Go.joinH (α := Int32) (pc1 := 82) (k1 := 4) (n1 := 128) (fun b => #[.val (.ref pa0), .val (.int 1), .val (.int px1), .val (.int b)]) (fun _ => []) ?_ ?_
  ·intro h25 Kh25 b24
   have zh25 := Kh25.1
   refine Ow.iinc (pc' := 85) (y := 2) (Ls' := #[.val (.ref pa0), .val (.int 2), .val (.int px1), .val (.int b24)]) B e0_82 ?_
   refine Ow.goto (pc' := 11) B e0_85 ?_
   refine Ow.iloadN (pc' := 12) B e0_11 ?_
   refine Ow.aloadN (pc' := 13) B e0_12 ?_
   refine Ow.Go.old (fun o26 => ?_)
   have f27 := f16.keep Kh25 Ow.nin0 Ow.nin0
   refine Ow.callVirtual (pc' := 16) (W := 1) (k' := 4) (n' := 128) (argsL := []) (rest := [(.int 2)]) (K := "java/lang/String") B e0_13 (w51 hw) (w52 hw) (w54 hw) (w54 hw) (w53 hw) (w8 hw) (w55 hw) (f27).1 (con_length_133 hw G GS (pa0 := pa0) (pa1 := pa1) (px0 := px0) (px1 := px1) (px2 := px2) (px3 := px3) (pk0 := pk0) o26 f27 (by omega) (by omega) hc_px0 hc_px1 hc_px2 hc_px3) pd14 ?_
   intro vq28 h29 S30 q28 zh29
   obtain ⟨rfl, rfl, rfl⟩ := q28
   refine Ow.Go.nr (S' := []) (st' := [(.int 4), (.int 2)]) ?_
   refine Ow.icmpF (pc' := 19) B e0_16 (by decide) ?_
   refine Ow.aloadN (pc' := 20) B e0_19 ?_
   refine Ow.iloadN (pc' := 21) B e0_20 ?_
   refine Ow.Go.old (fun o31 => ?_)
   refine Ow.callVirtual (pc' := 24) (W := 0) (k' := 4) (n' := 128) (argsL := [(.int 2)]) (rest := []) (K := "java/lang/String") B e0_21 (w61 hw) (w62 hw) (w64 hw) (w64 hw) (w63 hw) (w8 hw) (w65 hw) (f27).1 (con_charAt_151 hw G GS (pa0 := pa0) (pa1 := pa1) (px0 := px0) (px1 := px1) (px2 := px2) (px3 := px3) (pk0 := pk0) o31 f27 (by omega) (by omega) (hk4) (hk5) hc_px0 hc_px1 hc_px2 hc_px3) pd19 ?_
   intro vq32 h33 S34 q32 zh33
   obtain ⟨rfl, rfl, rfl⟩ := q32
   refine Ow.Go.nr (S' := []) (st' := [(.int px2)]) ?_
   refine Ow.istoreN (pc' := 25) (Ls' := #[.val (.ref pa0), .val (.int 2), .val (.int px2), .val (.int b24)]) B e0_24 ?_
   by_cases c35 : alP px2
   ·exact absurd (Or.inl c35) (hk8)
   ·refine blk_no_b hw B (pb := b24) ⟨hk4, hk5⟩ c35 (fun b36 => ?_)
    refine Ow.ldcText (pc' := 73) (k' := 6) (n' := 192) (nn := 60) (vs := [(.int 33), (.int 35), (.int 36), (.int 37), (.int 38), (.int 39), (.int 42), (.int 43), (.int 45), (.int 46), (.int 94), (.int 95), (.int 96), (.int 124), (.int 126)]) (z := 15) B e0_71 (w83 hw) (by decide) ⟨by decide, by decide⟩ (by decide) (by decide) ?_
    intro h38 a37 t39 kt39 Kh38 Ea37 Ca37 Va37 At39 Na37
    have zh38 := Kh38.1
    have la37 : (a37 : Nat) < h38.size := Ea37.lt
    have lt39 : (t39 : Nat) < h38.size := At39.lt
    refine Ow.iloadN (pc' := 74) B e0_73 ?_
    refine Ow.Go.old (fun o40 => ?_)
    refine Ow.callVirtual (pc' := 77) (W := 0) (k' := 6) (n' := 192) (argsL := [(.int px2)]) (rest := []) (K := "java/lang/String") B e0_74 (w84 hw) (w85 hw) (w87 hw) (w87 hw) (w86 hw) (w8 hw) (w88 hw) Ea37 (con_indexOf_43 hw G GS (pa0 := a37) (pa1 := t39) (px0 := px2) (pk0 := kt39) o40 Ea37 Ca37 Va37 At39 (hk4) hc_px2) pd6 ?_
    intro vq41 h42 S43 q41 zh42
    rcases q41 with q41 | q41
    ·obtain ⟨y44, rfl, rfl, c45, c46, rfl⟩ := q41
     refine Ow.Go.nr (S' := []) (st' := [(.int y44)]) ?_
     refine Ow.ifF (pc' := 80) B e0_77 (tlt (c46)).2.1 ?_
     refine Ow.iconst (pc' := 81) (x := 0) B e0_80 ?_
     exact Ow.retI (S' := []) (t := .boolean) B e0_81 (⟨rfl, ((((Keep.refl _ []).trans Kh14 (fun _ q => nomatch q)).trans Kh25 (fun _ q => nomatch q)).trans Kh38 (fun _ q => nomatch q)), c45, rfl⟩)
    ·obtain ⟨y47, rfl, rfl, c48, c49, rfl⟩ := q41
     refine Ow.Go.nr (S' := []) (st' := [(.int y47)]) ?_
     refine Ow.ifT (pc' := 82) B e0_77 (flt (c49)).2.1 ?_
     exact absurd (Or.inr (c48)) (hk8)
  ·intro J50
   by_cases c51 : alP px1
   ·refine blk_al_b hw B (pb := b13) ⟨hk2, hk3⟩ c51 (fun b52 => ?_)
    exact Ow.Go.mono (k' := 4) (n' := 128) (by decide) (by decide) (by simp) (J50 _ (Keep.refl _ []) _)
   ·refine blk_no_b hw B (pb := b13) ⟨hk2, hk3⟩ c51 (fun b53 => ?_)
    refine Ow.ldcText (pc' := 73) (k' := 4) (n' := 128) (nn := 60) (vs := [(.int 33), (.int 35), (.int 36), (.int 37), (.int 38), (.int 39), (.int 42), (.int 43), (.int 45), (.int 46), (.int 94), (.int 95), (.int 96), (.int 124), (.int 126)]) (z := 15) B e0_71 (w83 hw) (by decide) ⟨by decide, by decide⟩ (by decide) (by decide) ?_
    intro h55 a54 t56 kt56 Kh55 Ea54 Ca54 Va54 At56 Na54
    have zh55 := Kh55.1
    have la54 : (a54 : Nat) < h55.size := Ea54.lt
    have lt56 : (t56 : Nat) < h55.size := At56.lt
    refine Ow.iloadN (pc' := 74) B e0_73 ?_
    refine Ow.Go.old (fun o57 => ?_)
    refine Ow.callVirtual (pc' := 77) (W := 0) (k' := 4) (n' := 128) (argsL := [(.int px1)]) (rest := []) (K := "java/lang/String") B e0_74 (w84 hw) (w85 hw) (w87 hw) (w87 hw) (w86 hw) (w8 hw) (w88 hw) Ea54 (con_indexOf_43 hw G GS (pa0 := a54) (pa1 := t56) (px0 := px1) (pk0 := kt56) o57 Ea54 Ca54 Va54 At56 (hk2) hc_px1) pd6 ?_
    intro vq58 h59 S60 q58 zh59
    rcases q58 with q58 | q58
    ·obtain ⟨y61, rfl, rfl, c62, c63, rfl⟩ := q58
     refine Ow.Go.nr (S' := []) (st' := [(.int y61)]) ?_
     refine Ow.ifF (pc' := 80) B e0_77 (tlt (c63)).2.1 ?_
     exact absurd (hk7) (fun q => q.elim (fun q => c51 q) (c62))
    ·obtain ⟨y64, rfl, rfl, c65, c66, rfl⟩ := q58
     refine Ow.Go.nr (S' := []) (st' := [(.int y64)]) ?_
     refine Ow.ifT (pc' := 82) B e0_77 (flt (c66)).2.1 ?_
     exact Ow.Go.mono (k' := 4) (n' := 128) (by decide) (by decide) (by simp) (J50 _ ((Keep.refl _ []).trans Kh55 (fun _ q => nomatch q)) _)
 ·intro J67
  by_cases c68 : alP px0
  ·refine blk_al_u hw B (pb := 0) ⟨hk0, hk1⟩ c68 (fun b69 => ?_)
   exact Ow.Go.mono (k' := 2) (n' := 64) (by decide) (by decide) (by simp) (J67 _ (Keep.refl _ []) _)
  ·refine blk_no_u hw B (pb := 0) ⟨hk0, hk1⟩ c68 (fun b70 => ?_)
   refine Ow.ldcText (pc' := 73) (k' := 2) (n' := 64) (nn := 60) (vs := [(.int 33), (.int 35), (.int 36), (.int 37), (.int 38), (.int 39), (.int 42), (.int 43), (.int 45), (.int 46), (.int 94), (.int 95), (.int 96), (.int 124), (.int 126)]) (z := 15) B e0_71 (w83 hw) (by decide) ⟨by decide, by decide⟩ (by decide) (by decide) ?_
   intro h72 a71 t73 kt73 Kh72 Ea71 Ca71 Va71 At73 Na71
   have zh72 := Kh72.1
   have la71 : (a71 : Nat) < h72.size := Ea71.lt
   have lt73 : (t73 : Nat) < h72.size := At73.lt
   refine Ow.iloadN (pc' := 74) B e0_73 ?_
   refine Ow.Go.old (fun o74 => ?_)
   refine Ow.callVirtual (pc' := 77) (W := 0) (k' := 2) (n' := 64) (argsL := [(.int px0)]) (rest := []) (K := "java/lang/String") B e0_74 (w84 hw) (w85 hw) (w87 hw) (w87 hw) (w86 hw) (w8 hw) (w88 hw) Ea71 (con_indexOf_43 hw G GS (pa0 := a71) (pa1 := t73) (px0 := px0) (pk0 := kt73) o74 Ea71 Ca71 Va71 At73 (hk0) hc_px0) pd6 ?_
   intro vq75 h76 S77 q75 zh76
   rcases q75 with q75 | q75
   ·obtain ⟨y78, rfl, rfl, c79, c80, rfl⟩ := q75
    refine Ow.Go.nr (S' := []) (st' := [(.int y78)]) ?_
    refine Ow.ifF (pc' := 80) B e0_77 (tlt (c80)).2.1 ?_
    exact absurd (hk6) (fun q => q.elim (fun q => c68 q) (c79))
   ·obtain ⟨y81, rfl, rfl, c82, c83, rfl⟩ := q75
    refine Ow.Go.nr (S' := []) (st' := [(.int y81)]) ?_
    refine Ow.ifT (pc' := 82) B e0_77 (flt (c83)).2.1 ?_
    exact Ow.Go.mono (k' := 2) (n' := 64) (by decide) (by decide) (by simp) (J67 _ ((Keep.refl _ []).trans Kh72 (fun _ q => nomatch q)) _)
set_option maxRecDepth 65536 in
set_option maxHeartbeats 40000000 in
theorem seg132_13 (hw : Hw a0 Z) (G : Ow.Glo Z cz sf) (GS : GlS Z) {pa0 : Nat} {pa1 : Nat} {px0 : Int32} {px1 : Int32} {px2 : Int32} {px3 : Int32} {pk0 : ClassId} {dl0 : Int32} {dl1 : Int32} {dl2 : Int32} {dl3 : Int32} {dl4 : Int32} {dl5 : Int32} {dl6 : Int32} {dl7 : Int32} {dl8 : Int32} {dl9 : Int32} {p : Program} {e : Env} {s : State} {m : MethodId} {args : Array Value} {below : List Frame} {meth : Method} {c : ClassFile.Code} (B : Ow.Bdy p meth c Z EL1 a0 code maxLocals ret x.name) {h0 : Heap} (O0 : Old Z n0 h0) (hf0 : Ow.Chs Z h0 pa0 pa1 pk0 [px0, px1, px2, px3]) (hn0 : n0 ≤ pa0) (hn1 : n0 ≤ pa1) (hk0 : ¬ (px0 < (0 : Int32))) (hk1 : ¬ ((65535 : Int32) < px0)) (hk2 : ¬ (px1 < (0 : Int32))) (hk3 : ¬ ((65535 : Int32) < px1)) (hk4 : ¬ (px2 < (0 : Int32))) (hk5 : ¬ ((65535 : Int32) < px2)) (hk6 : tokP px0) (hk7 : tokP px1) (hk8 : ¬ (tokP px2)) (hc_px0 : nar .char px0 = px0) (hc_px1 : nar .char px1 = px1) (hc_px2 : nar .char px2 = px2) (hc_px3 : nar .char px3 = px3) :
  Ow.Go p l e room_1 s m args below meth c Z EL1 n0 x.cls (fun v _ _ => v = some (.int 1)) [] h0 18 1984 132 #[.val (.int dl0), .val (.int dl1), .val (.int dl2), .val (.int dl3), .val (.int dl4), .val (.int dl5), .val (.int dl6), .val (.int dl7), .val (.int dl8), .val (.int dl9), .val (.ref pa0), .val (.int 0)] [] := by
 have z0 := Ow.old_le O0
 have lpa0 : (pa0 : Nat) < h0.size := hf0.lt
 have lpa1 : (pa1 : Nat) < h0.size := hf0.ltt
 refine Ow.aload (pc' := 134) B at_132 ?_
 refine Ow.Go.old (fun o1 => ?_)
 refine Ow.callStatic (pc' := 137) (W := 0) (k' := 24) (n' := 2176) (argsL := [(.ref pa0)]) (rest := []) B at_134 (w28 hw) (w29 hw) (w30 hw) (w31 hw) (con_isToken_152 hw G GS (pa0 := pa0) (pa1 := pa1) (px0 := px0) (px1 := px1) (px2 := px2) (px3 := px3) (pk0 := pk0) o1 hf0 (by omega) (by omega) (hk0) (hk1) (hk2) (hk3) (hk4) (hk5) (hk6) (hk7) (hk8) hc_px0 hc_px1 hc_px2 hc_px3) pd4 ?_
 intro vq2 h3 S4 q2 zh3
 obtain ⟨rfl, Kh3, c5, rfl⟩ := q2
 refine Ow.Go.nr (S' := []) (st' := [(.int 0)]) ?_
 refine Ow.iload (pc' := 139) B at_137 ?_
 refine Ow.icmpF (pc' := 142) B at_139 (by decide) ?_
 refine Ow.iconst (pc' := 143) (x := 1) B at_142 ?_
 refine Ow.goto (pc' := 147) B at_143 ?_
 exact Ow.retI (S' := []) (t := .boolean) B at_147 (rfl)
set_option maxRecDepth 65536 in
set_option maxHeartbeats 40000000 in
theorem con_charAt_153 (hw : Hw a0 Z) (G : Ow.Glo Z cz sf) (GS : GlS Z) {pa0 : Nat} {px0 : Int32} {px1 : Int32} {px2 : Int32} {px3 : Int32} {pk0 : ClassId} {h0 : Heap} (O0 : Old Z n0 h0) (hf0 : Arv Z h0 pa0 pk0 .byte (4 : Int32) [(.int px0.toInt8.toInt32), (.int px1.toInt8.toInt32), (.int px2.toInt8.toInt32), (.int px3.toInt8.toInt32)] (.int 0)) (hn0 : n0 ≤ pa0) (hk0 : ¬ (px3 < (0 : Int32))) (hk1 : ¬ ((255 : Int32) < px3)) (hc_px0 : nar .char px0 = px0) (hc_px1 : nar .char px1 = px1) (hc_px2 : nar .char px2 = px2) (hc_px3 : nar .char px3 = px3) :
    Ow.Con l Z EL1 n0 my20 jdk_43_method_2_code 2 (Option.some Jvm.ClassFile.FieldType.char) [] ({ frames := 2, cells := 0, slots := 0, locals := 27 } : Room) #[(.ref pa0), (.int 3)] [] h0 (fun v h S' => (v = some (.int px3) ∧ h = h0 ∧ S' = [])) := by
 refine Ow.Con.enter (Ls := #[.val (.ref pa0), .val (.int 3)]) (plainFor_of_name pn4) O0 (hEW hw) (hSA hw) ?_
 intro p e s m below meth c B
 have z0 := Ow.old_le O0
 have lpa0 : (pa0 : Nat) < h0.size := hf0.lt
 refine Ow.iloadN (pc' := 1) B e19_0 ?_
 refine Ow.aloadN (pc' := 2) B e19_1 ?_
 refine Ow.arrlen (pc' := 3) B e19_2 hf0 ?_
 refine Ow.Go.old (fun o1 => ?_)
 refine Ow.callStatic (pc' := 6) (W := 0) (k' := 0) (n' := 0) (argsL := [(.int 3), (.int 4)]) (rest := []) B e19_3 (w75 hw) (w76 hw) (w8 hw) (w77 hw) (con_checkIndex_26 hw G GS (px0 := (3 : Int32)) (px1 := (4 : Int32)) o1 (by decide) (by decide)) pd16 ?_
 intro vq2 h3 S4 q2 zh3
 obtain ⟨rfl, rfl, rfl⟩ := q2
 refine Ow.Go.nr (S' := []) (st' := []) ?_
 refine Ow.aloadN (pc' := 7) B e19_6 ?_
 refine Ow.iloadN (pc' := 8) B e19_7 ?_
 refine Ow.baload (pc' := 9) B e19_8 hf0 ⟨by decide, by decide⟩ rfl ?_
 refine Ow.sipush (pc' := 12) (x := 255) B e19_9 ?_
 refine Ow.iand (pc' := 13) (z := px3) (hz := (Ow.b255 (hk0) (hk1))) B e19_12 ?_
 refine Ow.i2c (pc' := 14) (z := px3) (hz := (Ow.c_id (hk0) (hk1))) B e19_13 ?_
 exact Ow.retI (S' := []) (t := .char) (hnn := (Ow.cnarrow (Ow.nar_id (hk0) (hk1)))) B e19_14 (⟨rfl, rfl, rfl⟩)
set_option maxRecDepth 65536 in
set_option maxHeartbeats 40000000 in
theorem con_checkIndex_154 (hw : Hw a0 Z) (G : Ow.Glo Z cz sf) (GS : GlS Z) {pa0 : Nat} {px0 : Int32} {px1 : Int32} {px2 : Int32} {px3 : Int32} {pk0 : ClassId} {h0 : Heap} (O0 : Old Z n0 h0) (hf0 : Arv Z h0 pa0 pk0 .byte (8 : Int32) [(.int px0.toInt8.toInt32), (.int (px0 >>> ((8 : Int32) &&& 31)).toInt8.toInt32), (.int px1.toInt8.toInt32), (.int (px1 >>> ((8 : Int32) &&& 31)).toInt8.toInt32), (.int px2.toInt8.toInt32), (.int (px2 >>> ((8 : Int32) &&& 31)).toInt8.toInt32), (.int px3.toInt8.toInt32), (.int (px3 >>> ((8 : Int32) &&& 31)).toInt8.toInt32)] (.int 0)) (hn0 : n0 ≤ pa0) (hc_px0 : nar .char px0 = px0) (hc_px1 : nar .char px1 = px1) (hc_px2 : nar .char px2 = px2) (hc_px3 : nar .char px3 = px3) :
    Ow.Con l Z EL1 n0 my22 jdk_52_method_91_code 2 (Option.none : Option Jvm.ClassFile.FieldType) [] ({ frames := 2, cells := 0, slots := 0, locals := 27 } : Room) #[(.int 3), (.ref pa0)] [] h0 (fun v h S' => (v = none ∧ h = h0 ∧ S' = [])) := by
 refine Ow.Con.enter (Ls := #[.val (.int 3), .val (.ref pa0)]) (plainFor_of_name pn3) O0 (hEW hw) (hSA hw) ?_
 intro p e s m below meth c B
 have z0 := Ow.old_le O0
 have lpa0 : (pa0 : Nat) < h0.size := hf0.lt
 refine Ow.iloadN (pc' := 1) B e23_0 ?_
 refine Ow.aloadN (pc' := 2) B e23_1 ?_
 refine Ow.Go.old (fun o1 => ?_)
 refine Ow.callStatic (pc' := 5) (W := 1) (k' := 0) (n' := 0) (argsL := [(.ref pa0)]) (rest := [(.int 3)]) B e23_2 (w139 hw) (w140 hw) (w40 hw) (w141 hw) (con_length_135 hw G GS (pa0 := pa0) (px0 := px0) (px1 := px1) (px2 := px2) (px3 := px3) (pk0 := pk0) o1 hf0 (by omega) hc_px0 hc_px1 hc_px2 hc_px3) pd17 ?_
 intro vq2 h3 S4 q2 zh3
 obtain ⟨rfl, rfl, rfl⟩ := q2
 refine Ow.Go.nr (S' := []) (st' := [(.int 4), (.int 3)]) ?_
 refine Ow.Go.old (fun o5 => ?_)
 refine Ow.callStatic (pc' := 8) (W := 0) (k' := 0) (n' := 0) (argsL := [(.int 3), (.int 4)]) (rest := []) B e23_5 (w142 hw) (w76 hw) (w8 hw) (w77 hw) (con_checkIndex_26 hw G GS (px0 := (3 : Int32)) (px1 := (4 : Int32)) o5 (by decide) (by decide)) pd16 ?_
 intro vq6 h7 S8 q6 zh7
 obtain ⟨rfl, rfl, rfl⟩ := q6
 refine Ow.Go.nr (S' := []) (st' := []) ?_
 exact Ow.retV (S' := []) B e23_8 (⟨rfl, rfl, rfl⟩)
set_option maxRecDepth 65536 in
set_option maxHeartbeats 40000000 in
theorem con_getChar_155 (hw : Hw a0 Z) (G : Ow.Glo Z cz sf) (GS : GlS Z) {pa0 : Nat} {px0 : Int32} {px1 : Int32} {px2 : Int32} {px3 : Int32} {pk0 : ClassId} {h0 : Heap} (O0 : Old Z n0 h0) (hf0 : Arv Z h0 pa0 pk0 .byte (8 : Int32) [(.int px0.toInt8.toInt32), (.int (px0 >>> ((8 : Int32) &&& 31)).toInt8.toInt32), (.int px1.toInt8.toInt32), (.int (px1 >>> ((8 : Int32) &&& 31)).toInt8.toInt32), (.int px2.toInt8.toInt32), (.int (px2 >>> ((8 : Int32) &&& 31)).toInt8.toInt32), (.int px3.toInt8.toInt32), (.int (px3 >>> ((8 : Int32) &&& 31)).toInt8.toInt32)] (.int 0)) (hn0 : n0 ≤ pa0) (hk0 : ¬ (px3 < (0 : Int32))) (hk1 : ¬ ((65535 : Int32) < px3)) (hc_px0 : nar .char px0 = px0) (hc_px1 : nar .char px1 = px1) (hc_px2 : nar .char px2 = px2) (hc_px3 : nar .char px3 = px3) :
    Ow.Con l Z EL1 n0 my10 jdk_52_method_5_code 2 (Option.some Jvm.ClassFile.FieldType.char) [] ({ frames := 0, cells := 0, slots := 0, locals := 0 } : Room) #[(.ref pa0), (.int 3)] [] h0 (fun v h S' => (v = some (.int px3) ∧ h = h0 ∧ S' = [])) := by
 refine Ow.Con.enter (Ls := #[.val (.ref pa0), .val (.int 3)]) (plainFor_of_name pn3) O0 (hEW hw) (hSA hw) ?_
 intro p e s m below meth c B
 have z0 := Ow.old_le O0
 have lpa0 : (pa0 : Nat) < h0.size := hf0.lt
 refine Ow.getstatic (pc' := 3) B e11_0 (w127 hw) Via.refl GS.1 ?_
 refine Ow.ifT (pc' := 28) B e11_3 (by decide) ?_
 refine Ow.iloadN (pc' := 29) B e11_28 ?_
 refine Ow.iconst (pc' := 30) (x := 1) B e11_29 ?_
 refine Ow.ishl (pc' := 31) (z := 6) B e11_30 ?_
 refine Ow.istoreN (pc' := 32) (Ls' := #[.val (.ref pa0), .val (.int 6)]) B e11_31 ?_
 refine Ow.aloadN (pc' := 33) B e11_32 ?_
 refine Ow.iloadN (pc' := 34) B e11_33 ?_
 refine Ow.iinc (pc' := 37) (y := 7) (Ls' := #[.val (.ref pa0), .val (.int 7)]) B e11_34 ?_
 refine Ow.baload (pc' := 38) B e11_37 hf0 ⟨by decide, by decide⟩ rfl ?_
 refine Ow.sipush (pc' := 41) (x := 255) B e11_38 ?_
 refine Ow.iand (pc' := 42) (z := (px3.toInt8.toInt32 &&& (255 : Int32))) B e11_41 ?_
 refine Ow.getstatic (pc' := 45) B e11_42 (w128 hw) Via.refl GS.2.1 ?_
 refine Ow.ishl (pc' := 46) (z := ((px3.toInt8.toInt32 &&& (255 : Int32)) <<< ((0 : Int32) &&& 31))) B e11_45 ?_
 refine Ow.aloadN (pc' := 47) B e11_46 ?_
 refine Ow.iloadN (pc' := 48) B e11_47 ?_
 refine Ow.baload (pc' := 49) B e11_48 hf0 ⟨by decide, by decide⟩ rfl ?_
 refine Ow.sipush (pc' := 52) (x := 255) B e11_49 ?_
 refine Ow.iand (pc' := 53) (z := ((px3 >>> ((8 : Int32) &&& 31)).toInt8.toInt32 &&& (255 : Int32))) B e11_52 ?_
 refine Ow.getstatic (pc' := 56) B e11_53 (w129 hw) Via.refl GS.2.2 ?_
 refine Ow.ishl (pc' := 57) (z := (((px3 >>> ((8 : Int32) &&& 31)).toInt8.toInt32 &&& (255 : Int32)) <<< ((8 : Int32) &&& 31))) B e11_56 ?_
 refine Ow.ior (pc' := 58) (z := px3) (hz := (Ow.u16 (hk0) (hk1))) B e11_57 ?_
 refine Ow.i2c (pc' := 59) (z := px3) (hz := hc_px3) B e11_58 ?_
 exact Ow.retI (S' := []) (t := .char) (hnn := (Ow.cnarrow hc_px3)) B e11_59 (⟨rfl, rfl, rfl⟩)
set_option maxRecDepth 65536 in
set_option maxHeartbeats 40000000 in
theorem con_charAt_156 (hw : Hw a0 Z) (G : Ow.Glo Z cz sf) (GS : GlS Z) {pa0 : Nat} {px0 : Int32} {px1 : Int32} {px2 : Int32} {px3 : Int32} {pk0 : ClassId} {h0 : Heap} (O0 : Old Z n0 h0) (hf0 : Arv Z h0 pa0 pk0 .byte (8 : Int32) [(.int px0.toInt8.toInt32), (.int (px0 >>> ((8 : Int32) &&& 31)).toInt8.toInt32), (.int px1.toInt8.toInt32), (.int (px1 >>> ((8 : Int32) &&& 31)).toInt8.toInt32), (.int px2.toInt8.toInt32), (.int (px2 >>> ((8 : Int32) &&& 31)).toInt8.toInt32), (.int px3.toInt8.toInt32), (.int (px3 >>> ((8 : Int32) &&& 31)).toInt8.toInt32)] (.int 0)) (hn0 : n0 ≤ pa0) (hk0 : ¬ (px3 < (0 : Int32))) (hk1 : ¬ ((65535 : Int32) < px3)) (hc_px0 : nar .char px0 = px0) (hc_px1 : nar .char px1 = px1) (hc_px2 : nar .char px2 = px2) (hc_px3 : nar .char px3 = px3) :
    Ow.Con l Z EL1 n0 my23 jdk_52_method_83_code 2 (Option.some Jvm.ClassFile.FieldType.char) [] ({ frames := 3, cells := 0, slots := 0, locals := 40 } : Room) #[(.ref pa0), (.int 3)] [] h0 (fun v h S' => (v = some (.int px3) ∧ h = h0 ∧ S' = [])) := by
 refine Ow.Con.enter (Ls := #[.val (.ref pa0), .val (.int 3)]) (plainFor_of_name pn3) O0 (hEW hw) (hSA hw) ?_
 intro p e s m below meth c B
 have z0 := Ow.old_le O0
 have lpa0 : (pa0 : Nat) < h0.size := hf0.lt
 refine Ow.iloadN (pc' := 1) B e22_0 ?_
 refine Ow.aloadN (pc' := 2) B e22_1 ?_
 refine Ow.Go.old (fun o1 => ?_)
 refine Ow.callStatic (pc' := 5) (W := 0) (k' := 0) (n' := 0) (argsL := [(.int 3), (.ref pa0)]) (rest := []) B e22_2 (w136 hw) (w137 hw) (w40 hw) (w138 hw) (con_checkIndex_154 hw G GS (pa0 := pa0) (px0 := px0) (px1 := px1) (px2 := px2) (px3 := px3) (pk0 := pk0) o1 hf0 (by omega) hc_px0 hc_px1 hc_px2 hc_px3) pd18 ?_
 intro vq2 h3 S4 q2 zh3
 obtain ⟨rfl, rfl, rfl⟩ := q2
 refine Ow.Go.nr (S' := []) (st' := []) ?_
 refine Ow.aloadN (pc' := 6) B e22_5 ?_
 refine Ow.iloadN (pc' := 7) B e22_6 ?_
 refine Ow.Go.old (fun o5 => ?_)
 refine Ow.callStatic (pc' := 10) (W := 0) (k' := 0) (n' := 0) (argsL := [(.ref pa0), (.int 3)]) (rest := []) B e22_7 (w130 hw) (w131 hw) (w40 hw) (w132 hw) (con_getChar_155 hw G GS (pa0 := pa0) (px0 := px0) (px1 := px1) (px2 := px2) (px3 := px3) (pk0 := pk0) o5 hf0 (by omega) (hk0) (hk1) hc_px0 hc_px1 hc_px2 hc_px3) pd10 ?_
 intro vq6 h7 S8 q6 zh7
 obtain ⟨rfl, rfl, rfl⟩ := q6
 refine Ow.Go.nr (S' := []) (st' := [(.int px3)]) ?_
 exact Ow.retI (S' := []) (t := .char) (hnn := (Ow.cnarrow hc_px3)) B e22_10 (⟨rfl, rfl, rfl⟩)
set_option maxRecDepth 65536 in
set_option maxHeartbeats 40000000 in
theorem con_charAt_157 (hw : Hw a0 Z) (G : Ow.Glo Z cz sf) (GS : GlS Z) {pa0 : Nat} {pa1 : Nat} {px0 : Int32} {px1 : Int32} {px2 : Int32} {px3 : Int32} {pk0 : ClassId} {h0 : Heap} (O0 : Old Z n0 h0) (hf0 : Ow.Chs Z h0 pa0 pa1 pk0 [px0, px1, px2, px3]) (hn0 : n0 ≤ pa0) (hn1 : n0 ≤ pa1) (hk0 : ¬ (px3 < (0 : Int32))) (hk1 : ¬ ((65535 : Int32) < px3)) (hc_px0 : nar .char px0 = px0) (hc_px1 : nar .char px1 = px1) (hc_px2 : nar .char px2 = px2) (hc_px3 : nar .char px3 = px3) :
    Ow.Con l Z EL1 n0 my24 jdk_42_method_56_code 2 (Option.some Jvm.ClassFile.FieldType.char) [] ({ frames := 4, cells := 0, slots := 0, locals := 53 } : Room) #[(.ref pa0), (.int 3)] [] h0 (fun v h S' => (v = some (.int px3) ∧ h = h0 ∧ S' = [])) := by
 rcases hf0.2.2.2 with ⟨oc_hf0, oa_hf0, ol_hf0⟩ | ⟨oc_hf0, oa_hf0, ou_hf0⟩
 ·refine Ow.Con.enter (Ls := #[.val (.ref pa0), .val (.int 3)]) (plainFor_of_name pn1) O0 (hEW hw) (hSA hw) ?_
  intro p e s m below meth c B
  have z0 := Ow.old_le O0
  have oE_hf0 := hf0.1
  have oV_hf0 := hf0.2.1
  have oR_hf0 := hf0.2.2.1
  have oA_hf0 : Arv Z h0 pa1 pk0 .byte (4 : Int32) [(.int px0.toInt8.toInt32), (.int px1.toInt8.toInt32), (.int px2.toInt8.toInt32), (.int px3.toInt8.toInt32)] (.int 0) := oa_hf0
  have lpa0 : (pa0 : Nat) < h0.size := hf0.lt
  have lpa1 : (pa1 : Nat) < h0.size := oA_hf0.lt
  have lpa1 : (pa1 : Nat) < h0.size := hf0.ltt
  refine Ow.aloadN (pc' := 1) B e17_0 ?_
  refine Ow.Go.old (fun o1 => ?_)
  refine Ow.callVirtual (pc' := 4) (W := 0) (k' := 0) (n' := 0) (argsL := []) (rest := []) (K := "java/lang/String") B e17_1 (w66 hw) (w67 hw) (w69 hw) (w69 hw) (w68 hw) (w8 hw) (w70 hw) oE_hf0 (con_isLatin1_24 hw G GS (pa0 := pa0) o1 oc_hf0 (by omega)) pd3 ?_
  intro vq2 h3 S4 q2 zh3
  obtain ⟨rfl, rfl, rfl⟩ := q2
  refine Ow.Go.nr (S' := []) (st' := [(.int 1)]) ?_
  refine Ow.ifF (pc' := 7) B e17_4 (by decide) ?_
  refine Ow.aloadN (pc' := 8) B e17_7 ?_
  refine Ow.getfield (pc' := 11) B e17_8 (w26 hw) Via.refl oV_hf0 ?_
  refine Ow.iloadN (pc' := 12) B e17_11 ?_
  refine Ow.Go.old (fun o5 => ?_)
  refine Ow.callStatic (pc' := 15) (W := 0) (k' := 0) (n' := 0) (argsL := [(.ref pa1), (.int 3)]) (rest := []) B e17_12 (w71 hw) (w72 hw) (w73 hw) (w74 hw) (con_charAt_153 hw G GS (pa0 := pa1) (px0 := px0) (px1 := px1) (px2 := px2) (px3 := px3) (pk0 := pk0) o5 oA_hf0 (by omega) (hk0) (ol_hf0 px3 (by simp)) hc_px0 hc_px1 hc_px2 hc_px3) pd10 ?_
  intro vq6 h7 S8 q6 zh7
  obtain ⟨rfl, rfl, rfl⟩ := q6
  refine Ow.Go.nr (S' := []) (st' := [(.int px3)]) ?_
  exact Ow.retI (S' := []) (t := .char) (hnn := (Ow.cnarrow hc_px3)) B e17_15 (⟨rfl, rfl, rfl⟩)
 ·refine Ow.Con.enter (Ls := #[.val (.ref pa0), .val (.int 3)]) (plainFor_of_name pn1) O0 (hEW hw) (hSA hw) ?_
  intro p e s m below meth c B
  have z0 := Ow.old_le O0
  have oE_hf0 := hf0.1
  have oV_hf0 := hf0.2.1
  have oR_hf0 := hf0.2.2.1
  have oA_hf0 : Arv Z h0 pa1 pk0 .byte (8 : Int32) [(.int px0.toInt8.toInt32), (.int (px0 >>> ((8 : Int32) &&& 31)).toInt8.toInt32), (.int px1.toInt8.toInt32), (.int (px1 >>> ((8 : Int32) &&& 31)).toInt8.toInt32), (.int px2.toInt8.toInt32), (.int (px2 >>> ((8 : Int32) &&& 31)).toInt8.toInt32), (.int px3.toInt8.toInt32), (.int (px3 >>> ((8 : Int32) &&& 31)).toInt8.toInt32)] (.int 0) := oa_hf0
  have lpa0 : (pa0 : Nat) < h0.size := hf0.lt
  have lpa1 : (pa1 : Nat) < h0.size := oA_hf0.lt
  have lpa1 : (pa1 : Nat) < h0.size := hf0.ltt
  refine Ow.aloadN (pc' := 1) B e17_0 ?_
  refine Ow.Go.old (fun o1 => ?_)
  refine Ow.callVirtual (pc' := 4) (W := 0) (k' := 0) (n' := 0) (argsL := []) (rest := []) (K := "java/lang/String") B e17_1 (w66 hw) (w67 hw) (w69 hw) (w69 hw) (w68 hw) (w8 hw) (w70 hw) oE_hf0 (con_isLatin1_28 hw G GS (pa0 := pa0) o1 oc_hf0 (by omega)) pd3 ?_
  intro vq2 h3 S4 q2 zh3
  obtain ⟨rfl, rfl, rfl⟩ := q2
  refine Ow.Go.nr (S' := []) (st' := [(.int 0)]) ?_
  refine Ow.ifT (pc' := 16) B e17_4 (by decide) ?_
  refine Ow.aloadN (pc' := 17) B e17_16 ?_
  refine Ow.getfield (pc' := 20) B e17_17 (w26 hw) Via.refl oV_hf0 ?_
  refine Ow.iloadN (pc' := 21) B e17_20 ?_
  refine Ow.Go.old (fun o5 => ?_)
  refine Ow.callStatic (pc' := 24) (W := 0) (k' := 0) (n' := 0) (argsL := [(.ref pa1), (.int 3)]) (rest := []) B e17_21 (w133 hw) (w134 hw) (w40 hw) (w135 hw) (con_charAt_156 hw G GS (pa0 := pa1) (px0 := px0) (px1 := px1) (px2 := px2) (px3 := px3) (pk0 := pk0) o5 oA_hf0 (by omega) (hk0) (hk1) hc_px0 hc_px1 hc_px2 hc_px3) pd10 ?_
  intro vq6 h7 S8 q6 zh7
  obtain ⟨rfl, rfl, rfl⟩ := q6
  refine Ow.Go.nr (S' := []) (st' := [(.int px3)]) ?_
  exact Ow.retI (S' := []) (t := .char) (hnn := (Ow.cnarrow hc_px3)) B e17_24 (⟨rfl, rfl, rfl⟩)
set_option maxRecDepth 65536 in
set_option maxHeartbeats 40000000 in
theorem con_isToken_158 (hw : Hw a0 Z) (G : Ow.Glo Z cz sf) (GS : GlS Z) {pa0 : Nat} {pa1 : Nat} {px0 : Int32} {px1 : Int32} {px2 : Int32} {px3 : Int32} {pk0 : ClassId} {h0 : Heap} (O0 : Old Z n0 h0) (hf0 : Ow.Chs Z h0 pa0 pa1 pk0 [px0, px1, px2, px3]) (hn0 : n0 ≤ pa0) (hn1 : n0 ≤ pa1) (hk0 : ¬ (px0 < (0 : Int32))) (hk1 : ¬ ((65535 : Int32) < px0)) (hk2 : ¬ (px1 < (0 : Int32))) (hk3 : ¬ ((65535 : Int32) < px1)) (hk4 : ¬ (px2 < (0 : Int32))) (hk5 : ¬ ((65535 : Int32) < px2)) (hk6 : ¬ (px3 < (0 : Int32))) (hk7 : ¬ ((65535 : Int32) < px3)) (hk8 : tokP px0) (hk9 : tokP px1) (hk10 : tokP px2) (hk11 : ¬ (tokP px3)) (hc_px0 : nar .char px0 = px0) (hc_px1 : nar .char px1 = px1) (hc_px2 : nar .char px2 = px2) (hc_px3 : nar .char px3 = px3) :
    Ow.Con l Z EL1 n0 my4 prog_28_method_5_code 4 (Option.some Jvm.ClassFile.FieldType.boolean) [] ({ frames := 5, cells := 8, slots := 256, locals := 66 } : Room) #[(.ref pa0)] [] h0 (fun v h S' => (v = some (.int 0) ∧ Keep h0 h [] ∧ ¬ (symP px3) ∧ S' = [])) := by
 refine Ow.Con.enter (Ls := #[.val (.ref pa0), .unset, .unset, .unset]) (plainFor_of_name pn2) O0 (hEW hw) (hSA hw) ?_
 intro p e s m below meth c B
 have z0 := Ow.old_le O0
 have lpa0 : (pa0 : Nat) < h0.size := hf0.lt
 have lpa1 : (pa1 : Nat) < h0.size := hf0.ltt
 refine Ow.aloadN (pc' := 1) B e0_0 ?_
 refine Ow.Go.old (fun o1 => ?_)
 refine Ow.callVirtual (pc' := 4) (W := 0) (k' := 0) (n' := 0) (argsL := []) (rest := []) (K := "java/lang/String") B e0_1 (w32 hw) (w33 hw) (w35 hw) (w35 hw) (w34 hw) (w8 hw) (w36 hw) (hf0).1 (con_isEmpty_132 hw G GS (pa0 := pa0) (pa1 := pa1) (px0 := px0) (px1 := px1) (px2 := px2) (px3 := px3) (pk0 := pk0) o1 hf0 (by omega) (by omega) hc_px0 hc_px1 hc_px2 hc_px3) pd3 ?_
 intro vq2 h3 S4 q2 zh3
 obtain ⟨rfl, rfl, rfl⟩ := q2
 refine Ow.Go.nr (S' := []) (st' := [(.int 0)]) ?_
 refine Ow.ifT (pc' := 9) B e0_4 (by decide) ?_
 refine Ow.iconst (pc' := 10) (x := 0) B e0_9 ?_
 refine Ow.istoreN (pc' := 11) (Ls' := #[.val (.ref pa0), .val (.int 0), .unset, .unset]) B e0_10 ?_
 refine Ow.iloadN (pc' := 12) B e0_11 ?_
 refine Ow.aloadN (pc' := 13) B e0_12 ?_
 refine Ow.Go.old (fun o5 => ?_)
 refine Ow.callVirtual (pc' := 16) (W := 1) (k' := 0) (n' := 0) (argsL := []) (rest := [(.int 0)]) (K := "java/lang/String") B e0_13 (w51 hw) (w52 hw) (w54 hw) (w54 hw) (w53 hw) (w8 hw) (w55 hw) (hf0).1 (con_length_133 hw G GS (pa0 := pa0) (pa1 := pa1) (px0 := px0) (px1 := px1) (px2 := px2) (px3 := px3) (pk0 := pk0) o5 hf0 (by omega) (by omega) hc_px0 hc_px1 hc_px2 hc_px3) pd14 ?_
 intro vq6 h7 S8 q6 zh7
 obtain ⟨rfl, rfl, rfl⟩ := q6
 refine Ow.Go.nr (S' := []) (st' := [(.int 4), (.int 0)]) ?_
 refine Ow.icmpF (pc' := 19) B e0_16 (by decide) ?_
 refine Ow.aloadN (pc' := 20) B e0_19 ?_
 refine Ow.iloadN (pc' := 21) B e0_20 ?_
 refine Ow.Go.old (fun o9 => ?_)
 refine Ow.callVirtual (pc' := 24) (W := 0) (k' := 0) (n' := 0) (argsL := [(.int 0)]) (rest := []) (K := "java/lang/String") B e0_21 (w61 hw) (w62 hw) (w64 hw) (w64 hw) (w63 hw) (w8 hw) (w65 hw) (hf0).1 (con_charAt_139 hw G GS (pa0 := pa0) (pa1 := pa1) (px0 := px0) (px1 := px1) (px2 := px2) (px3 := px3) (pk0 := pk0) o9 hf0 (by omega) (by omega) (hk0) (hk1) hc_px0 hc_px1 hc_px2 hc_px3) pd19 ?_
 intro vq10 h11 S12 q10 zh11
 obtain ⟨rfl, rfl, rfl⟩ := q10
 refine Ow.Go.nr (S' := []) (st' := [(.int px0)]) ?_
 refine Ow.istoreN (pc' := 25) (Ls' := #[.val (.ref pa0), .val (.int 0), .val (.int px0), .unset]) B e0_24 ?_
 refine Ow.Go.joinH (α := Int32) (pc1 := 82) (k1 := 2) (n1 := 64) (fun b => #[.val (.ref pa0), .val (.int 0), .val (.int px0), .val (.int b)]) (fun _ => []) ?_ ?_
 ·intro h14 Kh14 b13
  have zh14 := Kh14.1
  refine Ow.iinc (pc' := 85) (y := 1) (Ls' := #[.val (.ref pa0), .val (.int 1), .val (.int px0), .val (.int b13)]) B e0_82 ?_
  refine Ow.goto (pc' := 11) B e0_85 ?_
  refine Ow.iloadN (pc' := 12) B e0_11 ?_
  refine Ow.aloadN (pc' := 13) B e0_12 ?_
  refine Ow.Go.old (fun o15 => ?_)
  have f16 := hf0.keep Kh14 Ow.nin0 Ow.nin0
  refine Ow.callVirtual (pc' := 16) (W := 1) (k' := 2) (n' := 64) (argsL := []) (rest := [(.int 1)]) (K := "java/lang/String") B e0_13 (w51 hw) (w52 hw) (w54 hw) (w54 hw) (w53 hw) (w8 hw) (w55 hw) (f16).1 (con_length_133 hw G GS (pa0 := pa0) (pa1 := pa1) (px0 := px0) (px1 := px1) (px2 := px2) (px3 := px3) (pk0 := pk0) o15 f16 (by omega) (by omega) hc_px0 hc_px1 hc_px2 hc_px3) pd14 ?_
  intro vq17 h18 S19 q17 zh18
  obtain ⟨rfl, rfl, rfl⟩ := q17
  refine Ow.Go.nr (S' := []) (st' := [(.int 4), (.int 1)]) ?_
  refine Ow.icmpF (pc' := 19) B e0_16 (by decide) ?_
  refine Ow.aloadN (pc' := 20) B e0_19 ?_
  refine Ow.iloadN (pc' := 21) B e0_20 ?_
  refine Ow.Go.old (fun o20 => ?_)
  refine Ow.callVirtual (pc' := 24) (W := 0) (k' := 2) (n' := 64) (argsL := [(.int 1)]) (rest := []) (K := "java/lang/String") B e0_21 (w61 hw) (w62 hw) (w64 hw) (w64 hw) (w63 hw) (w8 hw) (w65 hw) (f16).1 (con_charAt_145 hw G GS (pa0 := pa0) (pa1 := pa1) (px0 := px0) (px1 := px1) (px2 := px2) (px3 := px3) (pk0 := pk0) o20 f16 (by omega) (by omega) (hk2) (hk3) hc_px0 hc_px1 hc_px2 hc_px3) pd19 ?_
  intro vq21 h22 S23 q21 zh22
  obtain ⟨rfl, rfl, rfl⟩ := q21
  refine Ow.Go.nr (S' := []) (st' := [(.int px1)]) ?_
  refine Ow.istoreN (pc' := 25) (Ls' := #[.val (.ref pa0), .val (.int 1), .val (.int px1), .val (.int b13)]) B e0_24 ?_
  refine Ow.Go.joinH (α := Int32) (pc1 := 82) (k1 := 4) (n1 := 128) (fun b => #[.val (.ref pa0), .val (.int 1), .val (.int px1), .val (.int b)]) (fun _ => []) ?_ ?_
  ·intro h25 Kh25 b24
   have zh25 := Kh25.1
   refine Ow.iinc (pc' := 85) (y := 2) (Ls' := #[.val (.ref pa0), .val (.int 2), .val (.int px1), .val (.int b24)]) B e0_82 ?_
   refine Ow.goto (pc' := 11) B e0_85 ?_
   refine Ow.iloadN (pc' := 12) B e0_11 ?_
   refine Ow.aloadN (pc' := 13) B e0_12 ?_
   refine Ow.Go.old (fun o26 => ?_)
   have f27 := f16.keep Kh25 Ow.nin0 Ow.nin0
   refine Ow.callVirtual (pc' := 16) (W := 1) (k' := 4) (n' := 128) (argsL := []) (rest := [(.int 2)]) (K := "java/lang/String") B e0_13 (w51 hw) (w52 hw) (w54 hw) (w54 hw) (w53 hw) (w8 hw) (w55 hw) (f27).1 (con_length_133 hw G GS (pa0 := pa0) (pa1 := pa1) (px0 := px0) (px1 := px1) (px2 := px2) (px3 := px3) (pk0 := pk0) o26 f27 (by omega) (by omega) hc_px0 hc_px1 hc_px2 hc_px3) pd14 ?_
   intro vq28 h29 S30 q28 zh29
   obtain ⟨rfl, rfl, rfl⟩ := q28
   refine Ow.Go.nr (S' := []) (st' := [(.int 4), (.int 2)]) ?_
   refine Ow.icmpF (pc' := 19) B e0_16 (by decide) ?_
   refine Ow.aloadN (pc' := 20) B e0_19 ?_
   refine Ow.iloadN (pc' := 21) B e0_20 ?_
   refine Ow.Go.old (fun o31 => ?_)
   refine Ow.callVirtual (pc' := 24) (W := 0) (k' := 4) (n' := 128) (argsL := [(.int 2)]) (rest := []) (K := "java/lang/String") B e0_21 (w61 hw) (w62 hw) (w64 hw) (w64 hw) (w63 hw) (w8 hw) (w65 hw) (f27).1 (con_charAt_151 hw G GS (pa0 := pa0) (pa1 := pa1) (px0 := px0) (px1 := px1) (px2 := px2) (px3 := px3) (pk0 := pk0) o31 f27 (by omega) (by omega) (hk4) (hk5) hc_px0 hc_px1 hc_px2 hc_px3) pd19 ?_
   intro vq32 h33 S34 q32 zh33
   obtain ⟨rfl, rfl, rfl⟩ := q32
   refine Ow.Go.nr (S' := []) (st' := [(.int px2)]) ?_
   refine Ow.istoreN (pc' := 25) (Ls' := #[.val (.ref pa0), .val (.int 2), .val (.int px2), .val (.int b24)]) B e0_24 ?_
   refine Ow.Go.joinH (α := Int32) (pc1 := 82) (k1 := 6) (n1 := 192) (fun b => #[.val (.ref pa0), .val (.int 2), .val (.int px2), .val (.int b)]) (fun _ => []) ?_ ?_
   ·intro h36 Kh36 b35
    have zh36 := Kh36.1
    refine Ow.iinc (pc' := 85) (y := 3) (Ls' := #[.val (.ref pa0), .val (.int 3), .val (.int px2), .val (.int b35)]) B e0_82 ?_
    refine Ow.goto (pc' := 11) B e0_85 ?_
    refine Ow.iloadN (pc' := 12) B e0_11 ?_
    refine Ow.aloadN (pc' := 13) B e0_12 ?_
    refine Ow.Go.old (fun o37 => ?_)
    have f38 := f27.keep Kh36 Ow.nin0 Ow.nin0
    refine Ow.callVirtual (pc' := 16) (W := 1) (k' := 6) (n' := 192) (argsL := []) (rest := [(.int 3)]) (K := "java/lang/String") B e0_13 (w51 hw) (w52 hw) (w54 hw) (w54 hw) (w53 hw) (w8 hw) (w55 hw) (f38).1 (con_length_133 hw G GS (pa0 := pa0) (pa1 := pa1) (px0 := px0) (px1 := px1) (px2 := px2) (px3 := px3) (pk0 := pk0) o37 f38 (by omega) (by omega) hc_px0 hc_px1 hc_px2 hc_px3) pd14 ?_
    intro vq39 h40 S41 q39 zh40
    obtain ⟨rfl, rfl, rfl⟩ := q39
    refine Ow.Go.nr (S' := []) (st' := [(.int 4), (.int 3)]) ?_
    refine Ow.icmpF (pc' := 19) B e0_16 (by decide) ?_
    refine Ow.aloadN (pc' := 20) B e0_19 ?_
    refine Ow.iloadN (pc' := 21) B e0_20 ?_
    refine Ow.Go.old (fun o42 => ?_)
    refine Ow.callVirtual (pc' := 24) (W := 0) (k' := 6) (n' := 192) (argsL := [(.int 3)]) (rest := []) (K := "java/lang/String") B e0_21 (w61 hw) (w62 hw) (w64 hw) (w64 hw) (w63 hw) (w8 hw) (w65 hw) (f38).1 (con_charAt_157 hw G GS (pa0 := pa0) (pa1 := pa1) (px0 := px0) (px1 := px1) (px2 := px2) (px3 := px3) (pk0 := pk0) o42 f38 (by omega) (by omega) (hk6) (hk7) hc_px0 hc_px1 hc_px2 hc_px3) pd19 ?_
    intro vq43 h44 S45 q43 zh44
    obtain ⟨rfl, rfl, rfl⟩ := q43
    refine Ow.Go.nr (S' := []) (st' := [(.int px3)]) ?_
    refine Ow.istoreN (pc' := 25) (Ls' := #[.val (.ref pa0), .val (.int 3), .val (.int px3), .val (.int b35)]) B e0_24 ?_
    by_cases c46 : alP px3
    ·exact absurd (Or.inl c46) (hk11)
    ·refine blk_no_b hw B (pb := b35) ⟨hk6, hk7⟩ c46 (fun b47 => ?_)
     refine Ow.ldcText (pc' := 73) (k' := 8) (n' := 256) (nn := 60) (vs := [(.int 33), (.int 35), (.int 36), (.int 37), (.int 38), (.int 39), (.int 42), (.int 43), (.int 45), (.int 46), (.int 94), (.int 95), (.int 96), (.int 124), (.int 126)]) (z := 15) B e0_71 (w83 hw) (by decide) ⟨by decide, by decide⟩ (by decide) (by decide) ?_
     intro h49 a48 t50 kt50 Kh49 Ea48 Ca48 Va48 At50 Na48
     have zh49 := Kh49.1
     have la48 : (a48 : Nat) < h49.size := Ea48.lt
     have lt50 : (t50 : Nat) < h49.size := At50.lt
     refine Ow.iloadN (pc' := 74) B e0_73 ?_
     refine Ow.Go.old (fun o51 => ?_)
     refine Ow.callVirtual (pc' := 77) (W := 0) (k' := 8) (n' := 256) (argsL := [(.int px3)]) (rest := []) (K := "java/lang/String") B e0_74 (w84 hw) (w85 hw) (w87 hw) (w87 hw) (w86 hw) (w8 hw) (w88 hw) Ea48 (con_indexOf_43 hw G GS (pa0 := a48) (pa1 := t50) (px0 := px3) (pk0 := kt50) o51 Ea48 Ca48 Va48 At50 (hk6) hc_px3) pd6 ?_
     intro vq52 h53 S54 q52 zh53
     rcases q52 with q52 | q52
     ·obtain ⟨y55, rfl, rfl, c56, c57, rfl⟩ := q52
      refine Ow.Go.nr (S' := []) (st' := [(.int y55)]) ?_
      refine Ow.ifF (pc' := 80) B e0_77 (tlt (c57)).2.1 ?_
      refine Ow.iconst (pc' := 81) (x := 0) B e0_80 ?_
      exact Ow.retI (S' := []) (t := .boolean) B e0_81 (⟨rfl, (((((Keep.refl _ []).trans Kh14 (fun _ q => nomatch q)).trans Kh25 (fun _ q => nomatch q)).trans Kh36 (fun _ q => nomatch q)).trans Kh49 (fun _ q => nomatch q)), c56, rfl⟩)
     ·obtain ⟨y58, rfl, rfl, c59, c60, rfl⟩ := q52
      refine Ow.Go.nr (S' := []) (st' := [(.int y58)]) ?_
      refine Ow.ifT (pc' := 82) B e0_77 (flt (c60)).2.1 ?_
      exact absurd (Or.inr (c59)) (hk11)
   ·intro J61
    by_cases c62 : alP px2
    ·refine blk_al_b hw B (pb := b24) ⟨hk4, hk5⟩ c62 (fun b63 => ?_)
     exact Ow.Go.mono (k' := 6) (n' := 192) (by decide) (by decide) (by simp) (J61 _ (Keep.refl _ []) _)
    ·refine blk_no_b hw B (pb := b24) ⟨hk4, hk5⟩ c62 (fun b64 => ?_)
     refine Ow.ldcText (pc' := 73) (k' := 6) (n' := 192) (nn := 60) (vs := [(.int 33), (.int 35), (.int 36), (.int 37), (.int 38), (.int 39), (.int 42), (.int 43), (.int 45), (.int 46), (.int 94), (.int 95), (.int 96), (.int 124), (.int 126)]) (z := 15) B e0_71 (w83 hw) (by decide) ⟨by decide, by decide⟩ (by decide) (by decide) ?_
     intro h66 a65 t67 kt67 Kh66 Ea65 Ca65 Va65 At67 Na65
     have zh66 := Kh66.1
     have la65 : (a65 : Nat) < h66.size := Ea65.lt
     have lt67 : (t67 : Nat) < h66.size := At67.lt
     refine Ow.iloadN (pc' := 74) B e0_73 ?_
     refine Ow.Go.old (fun o68 => ?_)
     refine Ow.callVirtual (pc' := 77) (W := 0) (k' := 6) (n' := 192) (argsL := [(.int px2)]) (rest := []) (K := "java/lang/String") B e0_74 (w84 hw) (w85 hw) (w87 hw) (w87 hw) (w86 hw) (w8 hw) (w88 hw) Ea65 (con_indexOf_43 hw G GS (pa0 := a65) (pa1 := t67) (px0 := px2) (pk0 := kt67) o68 Ea65 Ca65 Va65 At67 (hk4) hc_px2) pd6 ?_
     intro vq69 h70 S71 q69 zh70
     rcases q69 with q69 | q69
     ·obtain ⟨y72, rfl, rfl, c73, c74, rfl⟩ := q69
      refine Ow.Go.nr (S' := []) (st' := [(.int y72)]) ?_
      refine Ow.ifF (pc' := 80) B e0_77 (tlt (c74)).2.1 ?_
      exact absurd (hk10) (fun q => q.elim (fun q => c62 q) (c73))
     ·obtain ⟨y75, rfl, rfl, c76, c77, rfl⟩ := q69
      refine Ow.Go.nr (S' := []) (st' := [(.int y75)]) ?_
      refine Ow.ifT (pc' := 82) B e0_77 (flt (c77)).2.1 ?_
      exact Ow.Go.mono (k' := 6) (n' := 192) (by decide) (by decide) (by simp) (J61 _ ((Keep.refl _ []).trans Kh66 (fun _ q => nomatch q)) _)
  ·intro J78
   by_cases c79 : alP px1
   ·refine blk_al_b hw B (pb := b13) ⟨hk2, hk3⟩ c79 (fun b80 => ?_)
    exact Ow.Go.mono (k' := 4) (n' := 128) (by decide) (by decide) (by simp) (J78 _ (Keep.refl _ []) _)
   ·refine blk_no_b hw B (pb := b13) ⟨hk2, hk3⟩ c79 (fun b81 => ?_)
    refine Ow.ldcText (pc' := 73) (k' := 4) (n' := 128) (nn := 60) (vs := [(.int 33), (.int 35), (.int 36), (.int 37), (.int 38), (.int 39), (.int 42), (.int 43), (.int 45), (.int 46), (.int 94), (.int 95), (.int 96), (.int 124), (.int 126)]) (z := 15) B e0_71 (w83 hw) (by decide) ⟨by decide, by decide⟩ (by decide) (by decide) ?_
    intro h83 a82 t84 kt84 Kh83 Ea82 Ca82 Va82 At84 Na82
    have zh83 := Kh83.1
    have la82 : (a82 : Nat) < h83.size := Ea82.lt
    have lt84 : (t84 : Nat) < h83.size := At84.lt
    refine Ow.iloadN (pc' := 74) B e0_73 ?_
    refine Ow.Go.old (fun o85 => ?_)
    refine Ow.callVirtual (pc' := 77) (W := 0) (k' := 4) (n' := 128) (argsL := [(.int px1)]) (rest := []) (K := "java/lang/String") B e0_74 (w84 hw) (w85 hw) (w87 hw) (w87 hw) (w86 hw) (w8 hw) (w88 hw) Ea82 (con_indexOf_43 hw G GS (pa0 := a82) (pa1 := t84) (px0 := px1) (pk0 := kt84) o85 Ea82 Ca82 Va82 At84 (hk2) hc_px1) pd6 ?_
    intro vq86 h87 S88 q86 zh87
    rcases q86 with q86 | q86
    ·obtain ⟨y89, rfl, rfl, c90, c91, rfl⟩ := q86
     refine Ow.Go.nr (S' := []) (st' := [(.int y89)]) ?_
     refine Ow.ifF (pc' := 80) B e0_77 (tlt (c91)).2.1 ?_
     exact absurd (hk9) (fun q => q.elim (fun q => c79 q) (c90))
    ·obtain ⟨y92, rfl, rfl, c93, c94, rfl⟩ := q86
     refine Ow.Go.nr (S' := []) (st' := [(.int y92)]) ?_
     refine Ow.ifT (pc' := 82) B e0_77 (flt (c94)).2.1 ?_
     exact Ow.Go.mono (k' := 4) (n' := 128) (by decide) (by decide) (by simp) (J78 _ ((Keep.refl _ []).trans Kh83 (fun _ q => nomatch q)) _)
 ·intro J95
  by_cases c96 : alP px0
  ·refine blk_al_u hw B (pb := 0) ⟨hk0, hk1⟩ c96 (fun b97 => ?_)
   exact Ow.Go.mono (k' := 2) (n' := 64) (by decide) (by decide) (by simp) (J95 _ (Keep.refl _ []) _)
  ·refine blk_no_u hw B (pb := 0) ⟨hk0, hk1⟩ c96 (fun b98 => ?_)
   refine Ow.ldcText (pc' := 73) (k' := 2) (n' := 64) (nn := 60) (vs := [(.int 33), (.int 35), (.int 36), (.int 37), (.int 38), (.int 39), (.int 42), (.int 43), (.int 45), (.int 46), (.int 94), (.int 95), (.int 96), (.int 124), (.int 126)]) (z := 15) B e0_71 (w83 hw) (by decide) ⟨by decide, by decide⟩ (by decide) (by decide) ?_
   intro h100 a99 t101 kt101 Kh100 Ea99 Ca99 Va99 At101 Na99
   have zh100 := Kh100.1
   have la99 : (a99 : Nat) < h100.size := Ea99.lt
   have lt101 : (t101 : Nat) < h100.size := At101.lt
   refine Ow.iloadN (pc' := 74) B e0_73 ?_
   refine Ow.Go.old (fun o102 => ?_)
   refine Ow.callVirtual (pc' := 77) (W := 0) (k' := 2) (n' := 64) (argsL := [(.int px0)]) (rest := []) (K := "java/lang/String") B e0_74 (w84 hw) (w85 hw) (w87 hw) (w87 hw) (w86 hw) (w8 hw) (w88 hw) Ea99 (con_indexOf_43 hw G GS (pa0 := a99) (pa1 := t101) (px0 := px0) (pk0 := kt101) o102 Ea99 Ca99 Va99 At101 (hk0) hc_px0) pd6 ?_
   intro vq103 h104 S105 q103 zh104
   rcases q103 with q103 | q103
   ·obtain ⟨y106, rfl, rfl, c107, c108, rfl⟩ := q103
    refine Ow.Go.nr (S' := []) (st' := [(.int y106)]) ?_
    refine Ow.ifF (pc' := 80) B e0_77 (tlt (c108)).2.1 ?_
    exact absurd (hk8) (fun q => q.elim (fun q => c96 q) (c107))
   ·obtain ⟨y109, rfl, rfl, c110, c111, rfl⟩ := q103
    refine Ow.Go.nr (S' := []) (st' := [(.int y109)]) ?_
    refine Ow.ifT (pc' := 82) B e0_77 (flt (c111)).2.1 ?_
    exact Ow.Go.mono (k' := 2) (n' := 64) (by decide) (by decide) (by simp) (J95 _ ((Keep.refl _ []).trans Kh100 (fun _ q => nomatch q)) _)
set_option maxRecDepth 65536 in
set_option maxHeartbeats 40000000 in
theorem seg132_14 (hw : Hw a0 Z) (G : Ow.Glo Z cz sf) (GS : GlS Z) {pa0 : Nat} {pa1 : Nat} {px0 : Int32} {px1 : Int32} {px2 : Int32} {px3 : Int32} {pk0 : ClassId} {dl0 : Int32} {dl1 : Int32} {dl2 : Int32} {dl3 : Int32} {dl4 : Int32} {dl5 : Int32} {dl6 : Int32} {dl7 : Int32} {dl8 : Int32} {dl9 : Int32} {p : Program} {e : Env} {s : State} {m : MethodId} {args : Array Value} {below : List Frame} {meth : Method} {c : ClassFile.Code} (B : Ow.Bdy p meth c Z EL1 a0 code maxLocals ret x.name) {h0 : Heap} (O0 : Old Z n0 h0) (hf0 : Ow.Chs Z h0 pa0 pa1 pk0 [px0, px1, px2, px3]) (hn0 : n0 ≤ pa0) (hn1 : n0 ≤ pa1) (hk0 : ¬ (px0 < (0 : Int32))) (hk1 : ¬ ((65535 : Int32) < px0)) (hk2 : ¬ (px1 < (0 : Int32))) (hk3 : ¬ ((65535 : Int32) < px1)) (hk4 : ¬ (px2 < (0 : Int32))) (hk5 : ¬ ((65535 : Int32) < px2)) (hk6 : ¬ (px3 < (0 : Int32))) (hk7 : ¬ ((65535 : Int32) < px3)) (hk8 : tokP px0) (hk9 : tokP px1) (hk10 : tokP px2) (hk11 : ¬ (tokP px3)) (hc_px0 : nar .char px0 = px0) (hc_px1 : nar .char px1 = px1) (hc_px2 : nar .char px2 = px2) (hc_px3 : nar .char px3 = px3) :
  Ow.Go p l e room_1 s m args below meth c Z EL1 n0 x.cls (fun v _ _ => v = some (.int 1)) [] h0 16 1920 132 #[.val (.int dl0), .val (.int dl1), .val (.int dl2), .val (.int dl3), .val (.int dl4), .val (.int dl5), .val (.int dl6), .val (.int dl7), .val (.int dl8), .val (.int dl9), .val (.ref pa0), .val (.int 0)] [] := by
 have z0 := Ow.old_le O0
 have lpa0 : (pa0 : Nat) < h0.size := hf0.lt
 have lpa1 : (pa1 : Nat) < h0.size := hf0.ltt
 refine Ow.aload (pc' := 134) B at_132 ?_
 refine Ow.Go.old (fun o1 => ?_)
 refine Ow.callStatic (pc' := 137) (W := 0) (k' := 24) (n' := 2176) (argsL := [(.ref pa0)]) (rest := []) B at_134 (w28 hw) (w29 hw) (w30 hw) (w31 hw) (con_isToken_158 hw G GS (pa0 := pa0) (pa1 := pa1) (px0 := px0) (px1 := px1) (px2 := px2) (px3 := px3) (pk0 := pk0) o1 hf0 (by omega) (by omega) (hk0) (hk1) (hk2) (hk3) (hk4) (hk5) (hk6) (hk7) (hk8) (hk9) (hk10) (hk11) hc_px0 hc_px1 hc_px2 hc_px3) pd4 ?_
 intro vq2 h3 S4 q2 zh3
 obtain ⟨rfl, Kh3, c5, rfl⟩ := q2
 refine Ow.Go.nr (S' := []) (st' := [(.int 0)]) ?_
 refine Ow.iload (pc' := 139) B at_137 ?_
 refine Ow.icmpF (pc' := 142) B at_139 (by decide) ?_
 refine Ow.iconst (pc' := 143) (x := 1) B at_142 ?_
 refine Ow.goto (pc' := 147) B at_143 ?_
 exact Ow.retI (S' := []) (t := .boolean) B at_147 (rfl)
set_option maxRecDepth 65536 in
set_option maxHeartbeats 40000000 in
theorem con_isToken_159 (hw : Hw a0 Z) (G : Ow.Glo Z cz sf) (GS : GlS Z) {pa0 : Nat} {pa1 : Nat} {px0 : Int32} {px1 : Int32} {px2 : Int32} {px3 : Int32} {pk0 : ClassId} {h0 : Heap} (O0 : Old Z n0 h0) (hf0 : Ow.Chs Z h0 pa0 pa1 pk0 [px0, px1, px2, px3]) (hn0 : n0 ≤ pa0) (hn1 : n0 ≤ pa1) (hk0 : ¬ (px0 < (0 : Int32))) (hk1 : ¬ ((65535 : Int32) < px0)) (hk2 : ¬ (px1 < (0 : Int32))) (hk3 : ¬ ((65535 : Int32) < px1)) (hk4 : ¬ (px2 < (0 : Int32))) (hk5 : ¬ ((65535 : Int32) < px2)) (hk6 : ¬ (px3 < (0 : Int32))) (hk7 : ¬ ((65535 : Int32) < px3)) (hk8 : tokP px0) (hk9 : tokP px1) (hk10 : tokP px2) (hk11 : tokP px3) (hc_px0 : nar .char px0 = px0) (hc_px1 : nar .char px1 = px1) (hc_px2 : nar .char px2 = px2) (hc_px3 : nar .char px3 = px3) :
    Ow.Con l Z EL1 n0 my4 prog_28_method_5_code 4 (Option.some Jvm.ClassFile.FieldType.boolean) [] ({ frames := 5, cells := 8, slots := 256, locals := 66 } : Room) #[(.ref pa0)] [] h0 (fun v h S' => (v = some (.int 1) ∧ Keep h0 h [] ∧ S' = [])) := by
 refine Ow.Con.enter (Ls := #[.val (.ref pa0), .unset, .unset, .unset]) (plainFor_of_name pn2) O0 (hEW hw) (hSA hw) ?_
 intro p e s m below meth c B
 have z0 := Ow.old_le O0
 have lpa0 : (pa0 : Nat) < h0.size := hf0.lt
 have lpa1 : (pa1 : Nat) < h0.size := hf0.ltt
 refine Ow.aloadN (pc' := 1) B e0_0 ?_
 refine Ow.Go.old (fun o1 => ?_)
 refine Ow.callVirtual (pc' := 4) (W := 0) (k' := 0) (n' := 0) (argsL := []) (rest := []) (K := "java/lang/String") B e0_1 (w32 hw) (w33 hw) (w35 hw) (w35 hw) (w34 hw) (w8 hw) (w36 hw) (hf0).1 (con_isEmpty_132 hw G GS (pa0 := pa0) (pa1 := pa1) (px0 := px0) (px1 := px1) (px2 := px2) (px3 := px3) (pk0 := pk0) o1 hf0 (by omega) (by omega) hc_px0 hc_px1 hc_px2 hc_px3) pd3 ?_
 intro vq2 h3 S4 q2 zh3
 obtain ⟨rfl, rfl, rfl⟩ := q2
 refine Ow.Go.nr (S' := []) (st' := [(.int 0)]) ?_
 refine Ow.ifT (pc' := 9) B e0_4 (by decide) ?_
 refine Ow.iconst (pc' := 10) (x := 0) B e0_9 ?_
 refine Ow.istoreN (pc' := 11) (Ls' := #[.val (.ref pa0), .val (.int 0), .unset, .unset]) B e0_10 ?_
 refine Ow.iloadN (pc' := 12) B e0_11 ?_
 refine Ow.aloadN (pc' := 13) B e0_12 ?_
 refine Ow.Go.old (fun o5 => ?_)
 refine Ow.callVirtual (pc' := 16) (W := 1) (k' := 0) (n' := 0) (argsL := []) (rest := [(.int 0)]) (K := "java/lang/String") B e0_13 (w51 hw) (w52 hw) (w54 hw) (w54 hw) (w53 hw) (w8 hw) (w55 hw) (hf0).1 (con_length_133 hw G GS (pa0 := pa0) (pa1 := pa1) (px0 := px0) (px1 := px1) (px2 := px2) (px3 := px3) (pk0 := pk0) o5 hf0 (by omega) (by omega) hc_px0 hc_px1 hc_px2 hc_px3) pd14 ?_
 intro vq6 h7 S8 q6 zh7
 obtain ⟨rfl, rfl, rfl⟩ := q6
 refine Ow.Go.nr (S' := []) (st' := [(.int 4), (.int 0)]) ?_
 refine Ow.icmpF (pc' := 19) B e0_16 (by decide) ?_
 refine Ow.aloadN (pc' := 20) B e0_19 ?_
 refine Ow.iloadN (pc' := 21) B e0_20 ?_
 refine Ow.Go.old (fun o9 => ?_)
 refine Ow.callVirtual (pc' := 24) (W := 0) (k' := 0) (n' := 0) (argsL := [(.int 0)]) (rest := []) (K := "java/lang/String") B e0_21 (w61 hw) (w62 hw) (w64 hw) (w64 hw) (w63 hw) (w8 hw) (w65 hw) (hf0).1 (con_charAt_139 hw G GS (pa0 := pa0) (pa1 := pa1) (px0 := px0) (px1 := px1) (px2 := px2) (px3 := px3) (pk0 := pk0) o9 hf0 (by omega) (by omega) (hk0) (hk1) hc_px0 hc_px1 hc_px2 hc_px3) pd19 ?_
 intro vq10 h11 S12 q10 zh11
 obtain ⟨rfl, rfl, rfl⟩ := q10
 refine Ow.Go.nr (S' := []) (st' := [(.int px0)]) ?_
 refine Ow.istoreN (pc' := 25) (Ls' := #[.val (.ref pa0), .val (.int 0), .val (.int px0), .unset]) B e0_24 ?_
 refine Ow.Go.joinH (α := Int32) (pc1 := 82) (k1 := 2) (n1 := 64) (fun b => #[.val (.ref pa0), .val (.int 0), .val (.int px0), .val (.int b)]) (fun _ => []) ?_ ?_
 ·intro h14 Kh14 b13
  have zh14 := Kh14.1
  refine Ow.iinc (pc' := 85) (y := 1) (Ls' := #[.val (.ref pa0), .val (.int 1), .val (.int px0), .val (.int b13)]) B e0_82 ?_
  refine Ow.goto (pc' := 11) B e0_85 ?_
  refine Ow.iloadN (pc' := 12) B e0_11 ?_
  refine Ow.aloadN (pc' := 13) B e0_12 ?_
  refine Ow.Go.old (fun o15 => ?_)
  have f16 := hf0.keep Kh14 Ow.nin0 Ow.nin0
  refine Ow.callVirtual (pc' := 16) (W := 1) (k' := 2) (n' := 64) (argsL := []) (rest := [(.int 1)]) (K := "java/lang/String") B e0_13 (w51 hw) (w52 hw) (w54 hw) (w54 hw) (w53 hw) (w8 hw) (w55 hw) (f16).1 (con_length_133 hw G GS (pa0 := pa0) (pa1 := pa1) (px0 := px0) (px1 := px1) (px2 := px2) (px3 := px3) (pk0 := pk0) o15 f16 (by omega) (by omega) hc_px0 hc_px1 hc_px2 hc_px3) pd14 ?_
  intro vq17 h18 S19 q17 zh18
  obtain ⟨rfl, rfl, rfl⟩ := q17
  refine Ow.Go.nr (S' := []) (st' := [(.int 4), (.int 1)]) ?_
  refine Ow.icmpF (pc' := 19) B e0_16 (by decide) ?_
  refine Ow.aloadN (pc' := 20) B e0_19 ?_
  refine Ow.iloadN (pc' := 21) B e0_20 ?_
  refine Ow.Go.old (fun o20 => ?_)
  refine Ow.callVirtual (pc' := 24) (W := 0) (k' := 2) (n' := 64) (argsL := [(.int 1)]) (rest := []) (K := "java/lang/String") B e0_21 (w61 hw) (w62 hw) (w64 hw) (w64 hw) (w63 hw) (w8 hw) (w65 hw) (f16).1 (con_charAt_145 hw G GS (pa0 := pa0) (pa1 := pa1) (px0 := px0) (px1 := px1) (px2 := px2) (px3 := px3) (pk0 := pk0) o20 f16 (by omega) (by omega) (hk2) (hk3) hc_px0 hc_px1 hc_px2 hc_px3) pd19 ?_
  intro vq21 h22 S23 q21 zh22
  obtain ⟨rfl, rfl, rfl⟩ := q21
  refine Ow.Go.nr (S' := []) (st' := [(.int px1)]) ?_
  refine Ow.istoreN (pc' := 25) (Ls' := #[.val (.ref pa0), .val (.int 1), .val (.int px1), .val (.int b13)]) B e0_24 ?_
  refine Ow.Go.joinH (α := Int32) (pc1 := 82) (k1 := 4) (n1 := 128) (fun b => #[.val (.ref pa0), .val (.int 1), .val (.int px1), .val (.int b)]) (fun _ => []) ?_ ?_
  ·intro h25 Kh25 b24
   have zh25 := Kh25.1
   refine Ow.iinc (pc' := 85) (y := 2) (Ls' := #[.val (.ref pa0), .val (.int 2), .val (.int px1), .val (.int b24)]) B e0_82 ?_
   refine Ow.goto (pc' := 11) B e0_85 ?_
   refine Ow.iloadN (pc' := 12) B e0_11 ?_
   refine Ow.aloadN (pc' := 13) B e0_12 ?_
   refine Ow.Go.old (fun o26 => ?_)
   have f27 := f16.keep Kh25 Ow.nin0 Ow.nin0
   refine Ow.callVirtual (pc' := 16) (W := 1) (k' := 4) (n' := 128) (argsL := []) (rest := [(.int 2)]) (K := "java/lang/String") B e0_13 (w51 hw) (w52 hw) (w54 hw) (w54 hw) (w53 hw) (w8 hw) (w55 hw) (f27).1 (con_length_133 hw G GS (pa0 := pa0) (pa1 := pa1) (px0 := px0) (px1 := px1) (px2 := px2) (px3 := px3) (pk0 := pk0) o26 f27 (by omega) (by omega) hc_px0 hc_px1 hc_px2 hc_px3) pd14 ?_
   intro vq28 h29 S30 q28 zh29
   obtain ⟨rfl, rfl, rfl⟩ := q28
   refine Ow.Go.nr (S' := []) (st' := [(.int 4), (.int 2)]) ?_
   refine Ow.icmpF (pc' := 19) B e0_16 (by decide) ?_
   refine Ow.aloadN (pc' := 20) B e0_19 ?_
   refine Ow.iloadN (pc' := 21) B e0_20 ?_
   refine Ow.Go.old (fun o31 => ?_)
   refine Ow.callVirtual (pc' := 24) (W := 0) (k' := 4) (n' := 128) (argsL := [(.int 2)]) (rest := []) (K := "java/lang/String") B e0_21 (w61 hw) (w62 hw) (w64 hw) (w64 hw) (w63 hw) (w8 hw) (w65 hw) (f27).1 (con_charAt_151 hw G GS (pa0 := pa0) (pa1 := pa1) (px0 := px0) (px1 := px1) (px2 := px2) (px3 := px3) (pk0 := pk0) o31 f27 (by omega) (by omega) (hk4) (hk5) hc_px0 hc_px1 hc_px2 hc_px3) pd19 ?_
   intro vq32 h33 S34 q32 zh33
   obtain ⟨rfl, rfl, rfl⟩ := q32
   refine Ow.Go.nr (S' := []) (st' := [(.int px2)]) ?_
   refine Ow.istoreN (pc' := 25) (Ls' := #[.val (.ref pa0), .val (.int 2), .val (.int px2), .val (.int b24)]) B e0_24 ?_
   refine Ow.Go.joinH (α := Int32) (pc1 := 82) (k1 := 6) (n1 := 192) (fun b => #[.val (.ref pa0), .val (.int 2), .val (.int px2), .val (.int b)]) (fun _ => []) ?_ ?_
   ·intro h36 Kh36 b35
    have zh36 := Kh36.1
    refine Ow.iinc (pc' := 85) (y := 3) (Ls' := #[.val (.ref pa0), .val (.int 3), .val (.int px2), .val (.int b35)]) B e0_82 ?_
    refine Ow.goto (pc' := 11) B e0_85 ?_
    refine Ow.iloadN (pc' := 12) B e0_11 ?_
    refine Ow.aloadN (pc' := 13) B e0_12 ?_
    refine Ow.Go.old (fun o37 => ?_)
    have f38 := f27.keep Kh36 Ow.nin0 Ow.nin0
    refine Ow.callVirtual (pc' := 16) (W := 1) (k' := 6) (n' := 192) (argsL := []) (rest := [(.int 3)]) (K := "java/lang/String") B e0_13 (w51 hw) (w52 hw) (w54 hw) (w54 hw) (w53 hw) (w8 hw) (w55 hw) (f38).1 (con_length_133 hw G GS (pa0 := pa0) (pa1 := pa1) (px0 := px0) (px1 := px1) (px2 := px2) (px3 := px3) (pk0 := pk0) o37 f38 (by omega) (by omega) hc_px0 hc_px1 hc_px2 hc_px3) pd14 ?_
    intro vq39 h40 S41 q39 zh40
    obtain ⟨rfl, rfl, rfl⟩ := q39
    refine Ow.Go.nr (S' := []) (st' := [(.int 4), (.int 3)]) ?_
    refine Ow.icmpF (pc' := 19) B e0_16 (by decide) ?_
    refine Ow.aloadN (pc' := 20) B e0_19 ?_
    refine Ow.iloadN (pc' := 21) B e0_20 ?_
    refine Ow.Go.old (fun o42 => ?_)
    refine Ow.callVirtual (pc' := 24) (W := 0) (k' := 6) (n' := 192) (argsL := [(.int 3)]) (rest := []) (K := "java/lang/String") B e0_21 (w61 hw) (w62 hw) (w64 hw) (w64 hw) (w63 hw) (w8 hw) (w65 hw) (f38).1 (con_charAt_157 hw G GS (pa0 := pa0) (pa1 := pa1) (px0 := px0) (px1 := px1) (px2 := px2) (px3 := px3) (pk0 := pk0) o42 f38 (by omega) (by omega) (hk6) (hk7) hc_px0 hc_px1 hc_px2 hc_px3) pd19 ?_
    intro vq43 h44 S45 q43 zh44
    obtain ⟨rfl, rfl, rfl⟩ := q43
    refine Ow.Go.nr (S' := []) (st' := [(.int px3)]) ?_
    refine Ow.istoreN (pc' := 25) (Ls' := #[.val (.ref pa0), .val (.int 3), .val (.int px3), .val (.int b35)]) B e0_24 ?_
    refine Ow.Go.joinH (α := Int32) (pc1 := 82) (k1 := 8) (n1 := 256) (fun b => #[.val (.ref pa0), .val (.int 3), .val (.int px3), .val (.int b)]) (fun _ => []) ?_ ?_
    ·intro h47 Kh47 b46
     have zh47 := Kh47.1
     refine Ow.iinc (pc' := 85) (y := 4) (Ls' := #[.val (.ref pa0), .val (.int 4), .val (.int px3), .val (.int b46)]) B e0_82 ?_
     refine Ow.goto (pc' := 11) B e0_85 ?_
     refine Ow.iloadN (pc' := 12) B e0_11 ?_
     refine Ow.aloadN (pc' := 13) B e0_12 ?_
     refine Ow.Go.old (fun o48 => ?_)
     have f49 := f38.keep Kh47 Ow.nin0 Ow.nin0
     refine Ow.callVirtual (pc' := 16) (W := 1) (k' := 8) (n' := 256) (argsL := []) (rest := [(.int 4)]) (K := "java/lang/String") B e0_13 (w51 hw) (w52 hw) (w54 hw) (w54 hw) (w53 hw) (w8 hw) (w55 hw) (f49).1 (con_length_133 hw G GS (pa0 := pa0) (pa1 := pa1) (px0 := px0) (px1 := px1) (px2 := px2) (px3 := px3) (pk0 := pk0) o48 f49 (by omega) (by omega) hc_px0 hc_px1 hc_px2 hc_px3) pd14 ?_
     intro vq50 h51 S52 q50 zh51
     obtain ⟨rfl, rfl, rfl⟩ := q50
     refine Ow.Go.nr (S' := []) (st' := [(.int 4), (.int 4)]) ?_
     refine Ow.icmpT (pc' := 88) B e0_16 (by decide) ?_
     refine Ow.iconst (pc' := 89) (x := 1) B e0_88 ?_
     exact Ow.retI (S' := []) (t := .boolean) B e0_89 (⟨rfl, (((((Keep.refl _ []).trans Kh14 (fun _ q => nomatch q)).trans Kh25 (fun _ q => nomatch q)).trans Kh36 (fun _ q => nomatch q)).trans Kh47 (fun _ q => nomatch q)), rfl⟩)
    ·intro J53
     by_cases c54 : alP px3
     ·refine blk_al_b hw B (pb := b35) ⟨hk6, hk7⟩ c54 (fun b55 => ?_)
      exact Ow.Go.mono (k' := 8) (n' := 256) (by decide) (by decide) (by simp) (J53 _ (Keep.refl _ []) _)
     ·refine blk_no_b hw B (pb := b35) ⟨hk6, hk7⟩ c54 (fun b56 => ?_)
      refine Ow.ldcText (pc' := 73) (k' := 8) (n' := 256) (nn := 60) (vs := [(.int 33), (.int 35), (.int 36), (.int 37), (.int 38), (.int 39), (.int 42), (.int 43), (.int 45), (.int 46), (.int 94), (.int 95), (.int 96), (.int 124), (.int 126)]) (z := 15) B e0_71 (w83 hw) (by decide) ⟨by decide, by decide⟩ (by decide) (by decide) ?_
      intro h58 a57 t59 kt59 Kh58 Ea57 Ca57 Va57 At59 Na57
      have zh58 := Kh58.1
      have la57 : (a57 : Nat) < h58.size := Ea57.lt
      have lt59 : (t59 : Nat) < h58.size := At59.lt
      refine Ow.iloadN (pc' := 74) B e0_73 ?_
      refine Ow.Go.old (fun o60 => ?_)
      refine Ow.callVirtual (pc' := 77) (W := 0) (k' := 8) (n' := 256) (argsL := [(.int px3)]) (rest := []) (K := "java/lang/String") B e0_74 (w84 hw) (w85 hw) (w87 hw) (w87 hw) (w86 hw) (w8 hw) (w88 hw) Ea57 (con_indexOf_43 hw G GS (pa0 := a57) (pa1 := t59) (px0 := px3) (pk0 := kt59) o60 Ea57 Ca57 Va57 At59 (hk6) hc_px3) pd6 ?_
      intro vq61 h62 S63 q61 zh62
      rcases q61 with q61 | q61
      ·obtain ⟨y64, rfl, rfl, c65, c66, rfl⟩ := q61
       refine Ow.Go.nr (S' := []) (st' := [(.int y64)]) ?_
       refine Ow.ifF (pc' := 80) B e0_77 (tlt (c66)).2.1 ?_
       exact absurd (hk11) (fun q => q.elim (fun q => c54 q) (c65))
      ·obtain ⟨y67, rfl, rfl, c68, c69, rfl⟩ := q61
       refine Ow.Go.nr (S' := []) (st' := [(.int y67)]) ?_
       refine Ow.ifT (pc' := 82) B e0_77 (flt (c69)).2.1 ?_
       exact Ow.Go.mono (k' := 8) (n' := 256) (by decide) (by decide) (by simp) (J53 _ ((Keep.refl _ []).trans Kh58 (fun _ q => nomatch q)) _)
   ·intro J70
    by_cases c71 : alP px2
    ·refine blk_al_b hw B (pb := b24) ⟨hk4, hk5⟩ c71 (fun b72 => ?_)
     exact Ow.Go.mono (k' := 6) (n' := 192) (by decide) (by decide) (by simp) (J70 _ (Keep.refl _ []) _)
    ·refine blk_no_b hw B (pb := b24) ⟨hk4, hk5⟩ c71 (fun b73 => ?_)
     refine Ow.ldcText (pc' := 73) (k' := 6) (n' := 192) (nn := 60) (vs := [(.int 33), (.int 35), (.int 36), (.int 37), (.int 38), (.int 39), (.int 42), (.int 43), (.int 45), (.int 46), (.int 94), (.int 95), (.int 96), (.int 124), (.int 126)]) (z := 15) B e0_71 (w83 hw) (by decide) ⟨by decide, by decide⟩ (by decide) (by decide) ?_
     intro h75 a74 t76 kt76 Kh75 Ea74 Ca74 Va74 At76 Na74
     have zh75 := Kh75.1
     have la74 : (a74 : Nat) < h75.size := Ea74.lt
     have lt76 : (t76 : Nat) < h75.size := At76.lt
     refine Ow.iloadN (pc' := 74) B e0_73 ?_
     refine Ow.Go.old (fun o77 => ?_)
     refine Ow.callVirtual (pc' := 77) (W := 0) (k' := 6) (n' := 192) (argsL := [(.int px2)]) (rest := []) (K := "java/lang/String") B e0_74 (w84 hw) (w85 hw) (w87 hw) (w87 hw) (w86 hw) (w8 hw) (w88 hw) Ea74 (con_indexOf_43 hw G GS (pa0 := a74) (pa1 := t76) (px0 := px2) (pk0 := kt76) o77 Ea74 Ca74 Va74 At76 (hk4) hc_px2) pd6 ?_
     intro vq78 h79 S80 q78 zh79
     rcases q78 with q78 | q78
     ·obtain ⟨y81, rfl, rfl, c82, c83, rfl⟩ := q78
      refine Ow.Go.nr (S' := []) (st' := [(.int y81)]) ?_
      refine Ow.ifF (pc' := 80) B e0_77 (tlt (c83)).2.1 ?_
      exact absurd (hk10) (fun q => q.elim (fun q => c71 q) (c82))
     ·obtain ⟨y84, rfl, rfl, c85, c86, rfl⟩ := q78
      refine Ow.Go.nr (S' := []) (st' := [(.int y84)]) ?_
      refine Ow.ifT (pc' := 82) B e0_77 (flt (c86)).2.1 ?_
      exact Ow.Go.mono (k' := 6) (n' := 192) (by decide) (by decide) (by simp) (J70 _ ((Keep.refl _ []).trans Kh75 (fun _ q => nomatch q)) _)
  ·intro J87
   by_cases c88 : alP px1
   ·refine blk_al_b hw B (pb := b13) ⟨hk2, hk3⟩ c88 (fun b89 => ?_)
    exact Ow.Go.mono (k' := 4) (n' := 128) (by decide) (by decide) (by simp) (J87 _ (Keep.refl _ []) _)
   ·refine blk_no_b hw B (pb := b13) ⟨hk2, hk3⟩ c88 (fun b90 => ?_)
    refine Ow.ldcText (pc' := 73) (k' := 4) (n' := 128) (nn := 60) (vs := [(.int 33), (.int 35), (.int 36), (.int 37), (.int 38), (.int 39), (.int 42), (.int 43), (.int 45), (.int 46), (.int 94), (.int 95), (.int 96), (.int 124), (.int 126)]) (z := 15) B e0_71 (w83 hw) (by decide) ⟨by decide, by decide⟩ (by decide) (by decide) ?_
    intro h92 a91 t93 kt93 Kh92 Ea91 Ca91 Va91 At93 Na91
    have zh92 := Kh92.1
    have la91 : (a91 : Nat) < h92.size := Ea91.lt
    have lt93 : (t93 : Nat) < h92.size := At93.lt
    refine Ow.iloadN (pc' := 74) B e0_73 ?_
    refine Ow.Go.old (fun o94 => ?_)
    refine Ow.callVirtual (pc' := 77) (W := 0) (k' := 4) (n' := 128) (argsL := [(.int px1)]) (rest := []) (K := "java/lang/String") B e0_74 (w84 hw) (w85 hw) (w87 hw) (w87 hw) (w86 hw) (w8 hw) (w88 hw) Ea91 (con_indexOf_43 hw G GS (pa0 := a91) (pa1 := t93) (px0 := px1) (pk0 := kt93) o94 Ea91 Ca91 Va91 At93 (hk2) hc_px1) pd6 ?_
    intro vq95 h96 S97 q95 zh96
    rcases q95 with q95 | q95
    ·obtain ⟨y98, rfl, rfl, c99, c100, rfl⟩ := q95
     refine Ow.Go.nr (S' := []) (st' := [(.int y98)]) ?_
     refine Ow.ifF (pc' := 80) B e0_77 (tlt (c100)).2.1 ?_
     exact absurd (hk9) (fun q => q.elim (fun q => c88 q) (c99))
    ·obtain ⟨y101, rfl, rfl, c102, c103, rfl⟩ := q95
     refine Ow.Go.nr (S' := []) (st' := [(.int y101)]) ?_
     refine Ow.ifT (pc' := 82) B e0_77 (flt (c103)).2.1 ?_
     exact Ow.Go.mono (k' := 4) (n' := 128) (by decide) (by decide) (by simp) (J87 _ ((Keep.refl _ []).trans Kh92 (fun _ q => nomatch q)) _)
 ·intro J104
  by_cases c105 : alP px0
  ·refine blk_al_u hw B (pb := 0) ⟨hk0, hk1⟩ c105 (fun b106 => ?_)
   exact Ow.Go.mono (k' := 2) (n' := 64) (by decide) (by decide) (by simp) (J104 _ (Keep.refl _ []) _)
  ·refine blk_no_u hw B (pb := 0) ⟨hk0, hk1⟩ c105 (fun b107 => ?_)
   refine Ow.ldcText (pc' := 73) (k' := 2) (n' := 64) (nn := 60) (vs := [(.int 33), (.int 35), (.int 36), (.int 37), (.int 38), (.int 39), (.int 42), (.int 43), (.int 45), (.int 46), (.int 94), (.int 95), (.int 96), (.int 124), (.int 126)]) (z := 15) B e0_71 (w83 hw) (by decide) ⟨by decide, by decide⟩ (by decide) (by decide) ?_
   intro h109 a108 t110 kt110 Kh109 Ea108 Ca108 Va108 At110 Na108
   have zh109 := Kh109.1
   have la108 : (a108 : Nat) < h109.size := Ea108.lt
   have lt110 : (t110 : Nat) < h109.size := At110.lt
   refine Ow.iloadN (pc' := 74) B e0_73 ?_
   refine Ow.Go.old (fun o111 => ?_)
   refine Ow.callVirtual (pc' := 77) (W := 0) (k' := 2) (n' := 64) (argsL := [(.int px0)]) (rest := []) (K := "java/lang/String") B e0_74 (w84 hw) (w85 hw) (w87 hw) (w87 hw) (w86 hw) (w8 hw) (w88 hw) Ea108 (con_indexOf_43 hw G GS (pa0 := a108) (pa1 := t110) (px0 := px0) (pk0 := kt110) o111 Ea108 Ca108 Va108 At110 (hk0) hc_px0) pd6 ?_
   intro vq112 h113 S114 q112 zh113
   rcases q112 with q112 | q112
   ·obtain ⟨y115, rfl, rfl, c116, c117, rfl⟩ := q112
    refine Ow.Go.nr (S' := []) (st' := [(.int y115)]) ?_
    refine Ow.ifF (pc' := 80) B e0_77 (tlt (c117)).2.1 ?_
    exact absurd (hk8) (fun q => q.elim (fun q => c105 q) (c116))
   ·obtain ⟨y118, rfl, rfl, c119, c120, rfl⟩ := q112
    refine Ow.Go.nr (S' := []) (st' := [(.int y118)]) ?_
    refine Ow.ifT (pc' := 82) B e0_77 (flt (c120)).2.1 ?_
    exact Ow.Go.mono (k' := 2) (n' := 64) (by decide) (by decide) (by simp) (J104 _ ((Keep.refl _ []).trans Kh109 (fun _ q => nomatch q)) _)
set_option maxRecDepth 65536 in
set_option maxHeartbeats 40000000 in
theorem seg132_15 (hw : Hw a0 Z) (G : Ow.Glo Z cz sf) (GS : GlS Z) {pa0 : Nat} {pa1 : Nat} {px0 : Int32} {px1 : Int32} {px2 : Int32} {px3 : Int32} {pk0 : ClassId} {dl0 : Int32} {dl1 : Int32} {dl2 : Int32} {dl3 : Int32} {dl4 : Int32} {dl5 : Int32} {dl6 : Int32} {dl7 : Int32} {dl8 : Int32} {dl9 : Int32} {p : Program} {e : Env} {s : State} {m : MethodId} {args : Array Value} {below : List Frame} {meth : Method} {c : ClassFile.Code} (B : Ow.Bdy p meth c Z EL1 a0 code maxLocals ret x.name) {h0 : Heap} (O0 : Old Z n0 h0) (hf0 : Ow.Chs Z h0 pa0 pa1 pk0 [px0, px1, px2, px3]) (hn0 : n0 ≤ pa0) (hn1 : n0 ≤ pa1) (hk0 : ¬ (px0 < (0 : Int32))) (hk1 : ¬ ((65535 : Int32) < px0)) (hk2 : ¬ (px1 < (0 : Int32))) (hk3 : ¬ ((65535 : Int32) < px1)) (hk4 : ¬ (px2 < (0 : Int32))) (hk5 : ¬ ((65535 : Int32) < px2)) (hk6 : ¬ (px3 < (0 : Int32))) (hk7 : ¬ ((65535 : Int32) < px3)) (hk8 : tokP px0) (hk9 : tokP px1) (hk10 : tokP px2) (hk11 : tokP px3) (hc_px0 : nar .char px0 = px0) (hc_px1 : nar .char px1 = px1) (hc_px2 : nar .char px2 = px2) (hc_px3 : nar .char px3 = px3) :
  Ow.Go p l e room_1 s m args below meth c Z EL1 n0 x.cls (fun v _ _ => v = some (.int 1)) [] h0 16 1920 132 #[.val (.int dl0), .val (.int dl1), .val (.int dl2), .val (.int dl3), .val (.int dl4), .val (.int dl5), .val (.int dl6), .val (.int dl7), .val (.int dl8), .val (.int dl9), .val (.ref pa0), .val (.int 1)] [] := by
 have z0 := Ow.old_le O0
 have lpa0 : (pa0 : Nat) < h0.size := hf0.lt
 have lpa1 : (pa1 : Nat) < h0.size := hf0.ltt
 refine Ow.aload (pc' := 134) B at_132 ?_
 refine Ow.Go.old (fun o1 => ?_)
 refine Ow.callStatic (pc' := 137) (W := 0) (k' := 24) (n' := 2176) (argsL := [(.ref pa0)]) (rest := []) B at_134 (w28 hw) (w29 hw) (w30 hw) (w31 hw) (con_isToken_159 hw G GS (pa0 := pa0) (pa1 := pa1) (px0 := px0) (px1 := px1) (px2 := px2) (px3 := px3) (pk0 := pk0) o1 hf0 (by omega) (by omega) (hk0) (hk1) (hk2) (hk3) (hk4) (hk5) (hk6) (hk7) (hk8) (hk9) (hk10) (hk11) hc_px0 hc_px1 hc_px2 hc_px3) pd4 ?_
 intro vq2 h3 S4 q2 zh3
 obtain ⟨rfl, Kh3, rfl⟩ := q2
 refine Ow.Go.nr (S' := []) (st' := [(.int 1)]) ?_
 refine Ow.iload (pc' := 139) B at_137 ?_
 refine Ow.icmpF (pc' := 142) B at_139 (by decide) ?_
 refine Ow.iconst (pc' := 143) (x := 1) B at_142 ?_
 refine Ow.goto (pc' := 147) B at_143 ?_
 exact Ow.retI (S' := []) (t := .boolean) B at_147 (rfl)
set_option maxRecDepth 65536 in
set_option maxHeartbeats 40000000 in
theorem lawCon (hw : Hw a0 Z) (G : Ow.Glo Z cz sf) (GS : GlS Z) (x0 x1 x2 x3 x4 : Int32) {h0 : Heap} (O0 : Old Z n0 h0)  :
    Ow.Con l Z EL1 n0 x code maxLocals ret tables_1 room_1 #[(.int x0), (.int x1), (.int x2), (.int x3), (.int x4)] [] h0 (fun v _ _ => v = some (.int 1)) := by
 refine Ow.Con.enter (Ls := #[.val (.int x0), .val (.int x1), .val (.int x2), .val (.int x3), .val (.int x4), .unset, .unset, .unset, .unset, .unset, .unset, .unset]) (plainFor_of_name pn0) O0 (hEW hw) (hSA hw) ?_
 intro p e s m below meth c B
 have z0 := Ow.old_le O0
 refine Ow.iloadN (pc' := 1) B at_0 ?_
 refine Ow.ldcInt (pc' := 3) B at_1 (w0 hw) ?_
 refine Ow.iand (pc' := 4) (z := (x0 &&& (2147483647 : Int32))) B at_3 ?_
 refine Ow.iconst (pc' := 5) (x := 5) B at_4 ?_
 rcases Ow.maxrem5 x0 with hz5 | hz5 | hz5 | hz5 | hz5
 ·refine Ow.irem (pc' := 6) (z := 0) (hz := hz5) B at_5 ?_
  refine Ow.istore (pc' := 8) (Ls' := #[.val (.int x0), .val (.int x1), .val (.int x2), .val (.int x3), .val (.int x4), .val (.int 0), .unset, .unset, .unset, .unset, .unset, .unset]) B at_6 ?_
  refine Ow.iloadN (pc' := 9) B at_8 ?_
  refine Ow.ldcInt (pc' := 11) B at_9 (w1 hw) ?_
  refine Ow.iand (pc' := 12) (z := (x1 &&& (65535 : Int32))) B at_11 ?_
  obtain ⟨c1, hc1⟩ : ∃ z : Int32, (x1 &&& (65535 : Int32)).toUInt32.toUInt16.toUInt32.toInt32 = z := ⟨_, rfl⟩
  refine Ow.i2c (pc' := 13) (z := c1) (hz := hc1) B at_12 ?_
  refine Ow.istore (pc' := 15) (Ls' := #[.val (.int x0), .val (.int x1), .val (.int x2), .val (.int x3), .val (.int x4), .val (.int 0), .val (.int c1), .unset, .unset, .unset, .unset, .unset]) B at_13 ?_
  refine Ow.iloadN (pc' := 16) B at_15 ?_
  refine Ow.ldcInt (pc' := 18) B at_16 (w1 hw) ?_
  refine Ow.iand (pc' := 19) (z := (x2 &&& (65535 : Int32))) B at_18 ?_
  obtain ⟨c2, hc2⟩ : ∃ z : Int32, (x2 &&& (65535 : Int32)).toUInt32.toUInt16.toUInt32.toInt32 = z := ⟨_, rfl⟩
  refine Ow.i2c (pc' := 20) (z := c2) (hz := hc2) B at_19 ?_
  refine Ow.istore (pc' := 22) (Ls' := #[.val (.int x0), .val (.int x1), .val (.int x2), .val (.int x3), .val (.int x4), .val (.int 0), .val (.int c1), .val (.int c2), .unset, .unset, .unset, .unset]) B at_20 ?_
  refine Ow.iloadN (pc' := 23) B at_22 ?_
  refine Ow.ldcInt (pc' := 25) B at_23 (w1 hw) ?_
  refine Ow.iand (pc' := 26) (z := (x3 &&& (65535 : Int32))) B at_25 ?_
  obtain ⟨c3, hc3⟩ : ∃ z : Int32, (x3 &&& (65535 : Int32)).toUInt32.toUInt16.toUInt32.toInt32 = z := ⟨_, rfl⟩
  refine Ow.i2c (pc' := 27) (z := c3) (hz := hc3) B at_26 ?_
  refine Ow.istore (pc' := 29) (Ls' := #[.val (.int x0), .val (.int x1), .val (.int x2), .val (.int x3), .val (.int x4), .val (.int 0), .val (.int c1), .val (.int c2), .val (.int c3), .unset, .unset, .unset]) B at_27 ?_
  refine Ow.iload (pc' := 31) B at_29 ?_
  refine Ow.ldcInt (pc' := 33) B at_31 (w1 hw) ?_
  refine Ow.iand (pc' := 34) (z := (x4 &&& (65535 : Int32))) B at_33 ?_
  obtain ⟨c4, hc4⟩ : ∃ z : Int32, (x4 &&& (65535 : Int32)).toUInt32.toUInt16.toUInt32.toInt32 = z := ⟨_, rfl⟩
  refine Ow.i2c (pc' := 35) (z := c4) (hz := hc4) B at_34 ?_
  refine Ow.istore (pc' := 37) (Ls' := #[.val (.int x0), .val (.int x1), .val (.int x2), .val (.int x3), .val (.int x4), .val (.int 0), .val (.int c1), .val (.int c2), .val (.int c3), .val (.int c4), .unset, .unset]) B at_35 ?_
  refine Ow.iload (pc' := 39) B at_37 ?_
  refine Ow.iload (pc' := 41) B at_39 ?_
  refine Ow.iload (pc' := 43) B at_41 ?_
  refine Ow.iload (pc' := 45) B at_43 ?_
  refine Ow.iload (pc' := 47) B at_45 ?_
  refine Ow.Go.old (fun o5 => ?_)
  refine Ow.callStatic (pc' := 50) (W := 0) (k' := 6) (n' := 12) (argsL := [(.int 0), (.int c1), (.int c2), (.int c3), (.int c4)]) (rest := []) B at_47 (w2 hw) (w3 hw) (w4 hw) (w5 hw) (con_make_3 hw G GS (px0 := c1) (px1 := c2) (px2 := c3) (px3 := c4) o5 (Ow.cnar hc1) (Ow.cnar hc2) (Ow.cnar hc3) (Ow.cnar hc4)) pd2 ?_
  intro vq6 h7 S8 q6 zh7
  obtain ⟨r9, r10, k11, rfl, Kh7, br9, f12, rfl⟩ := q6
  have lr10 : (r10 : Nat) < h7.size := f12.ltt
  have lr9 : (r9 : Nat) < h7.size := f12.lt
  refine Ow.Go.nr (S' := []) (st' := [(.ref r9)]) ?_
  refine Ow.astore (pc' := 52) (Ls' := #[.val (.int x0), .val (.int x1), .val (.int x2), .val (.int x3), .val (.int x4), .val (.int 0), .val (.int c1), .val (.int c2), .val (.int c3), .val (.int c4), .val (.ref r9), .unset]) B at_50 ?_
  refine Ow.iload (pc' := 54) B at_52 ?_
  refine Ow.ifT (pc' := 61) B at_54 (by decide) ?_
  refine Ow.iconst (pc' := 62) (x := 0) B at_61 ?_
  refine Ow.istore (pc' := 64) (Ls' := #[.val (.int x0), .val (.int x1), .val (.int x2), .val (.int x3), .val (.int x4), .val (.int 0), .val (.int c1), .val (.int c2), .val (.int c3), .val (.int c4), .val (.ref r9), .val (.int 0)]) B at_62 ?_
  refine Ow.iload (pc' := 66) B at_64 ?_
  refine Ow.iconst (pc' := 67) (x := 1) B at_66 ?_
  refine Ow.icmpT (pc' := 81) B at_67 (by decide) ?_
  refine Ow.iload (pc' := 83) B at_81 ?_
  refine Ow.iconst (pc' := 84) (x := 2) B at_83 ?_
  refine Ow.icmpT (pc' := 98) B at_84 (by decide) ?_
  refine Ow.iload (pc' := 100) B at_98 ?_
  refine Ow.iconst (pc' := 101) (x := 3) B at_100 ?_
  refine Ow.icmpT (pc' := 115) B at_101 (by decide) ?_
  refine Ow.iload (pc' := 117) B at_115 ?_
  refine Ow.iconst (pc' := 118) (x := 4) B at_117 ?_
  refine Ow.icmpT (pc' := 132) B at_118 (by decide) ?_
  refine Ow.Go.old (fun o13 => ?_)
  exact Ow.Go.mono (k' := 24) (n' := 2176) (by decide) (by decide) (by simp) (seg132_1 hw G GS (dl0 := x0) (dl1 := x1) (dl2 := x2) (dl3 := x3) (dl4 := x4) (dl5 := (0 : Int32)) (dl6 := c1) (dl7 := c2) (dl8 := c3) (dl9 := c4) (pa0 := r9) (pa1 := r10) (pk0 := k11) B  o13 f12 (by omega))
 ·refine Ow.irem (pc' := 6) (z := 1) (hz := hz5) B at_5 ?_
  refine Ow.istore (pc' := 8) (Ls' := #[.val (.int x0), .val (.int x1), .val (.int x2), .val (.int x3), .val (.int x4), .val (.int 1), .unset, .unset, .unset, .unset, .unset, .unset]) B at_6 ?_
  refine Ow.iloadN (pc' := 9) B at_8 ?_
  refine Ow.ldcInt (pc' := 11) B at_9 (w1 hw) ?_
  refine Ow.iand (pc' := 12) (z := (x1 &&& (65535 : Int32))) B at_11 ?_
  obtain ⟨c14, hc14⟩ : ∃ z : Int32, (x1 &&& (65535 : Int32)).toUInt32.toUInt16.toUInt32.toInt32 = z := ⟨_, rfl⟩
  refine Ow.i2c (pc' := 13) (z := c14) (hz := hc14) B at_12 ?_
  refine Ow.istore (pc' := 15) (Ls' := #[.val (.int x0), .val (.int x1), .val (.int x2), .val (.int x3), .val (.int x4), .val (.int 1), .val (.int c14), .unset, .unset, .unset, .unset, .unset]) B at_13 ?_
  refine Ow.iloadN (pc' := 16) B at_15 ?_
  refine Ow.ldcInt (pc' := 18) B at_16 (w1 hw) ?_
  refine Ow.iand (pc' := 19) (z := (x2 &&& (65535 : Int32))) B at_18 ?_
  obtain ⟨c15, hc15⟩ : ∃ z : Int32, (x2 &&& (65535 : Int32)).toUInt32.toUInt16.toUInt32.toInt32 = z := ⟨_, rfl⟩
  refine Ow.i2c (pc' := 20) (z := c15) (hz := hc15) B at_19 ?_
  refine Ow.istore (pc' := 22) (Ls' := #[.val (.int x0), .val (.int x1), .val (.int x2), .val (.int x3), .val (.int x4), .val (.int 1), .val (.int c14), .val (.int c15), .unset, .unset, .unset, .unset]) B at_20 ?_
  refine Ow.iloadN (pc' := 23) B at_22 ?_
  refine Ow.ldcInt (pc' := 25) B at_23 (w1 hw) ?_
  refine Ow.iand (pc' := 26) (z := (x3 &&& (65535 : Int32))) B at_25 ?_
  obtain ⟨c16, hc16⟩ : ∃ z : Int32, (x3 &&& (65535 : Int32)).toUInt32.toUInt16.toUInt32.toInt32 = z := ⟨_, rfl⟩
  refine Ow.i2c (pc' := 27) (z := c16) (hz := hc16) B at_26 ?_
  refine Ow.istore (pc' := 29) (Ls' := #[.val (.int x0), .val (.int x1), .val (.int x2), .val (.int x3), .val (.int x4), .val (.int 1), .val (.int c14), .val (.int c15), .val (.int c16), .unset, .unset, .unset]) B at_27 ?_
  refine Ow.iload (pc' := 31) B at_29 ?_
  refine Ow.ldcInt (pc' := 33) B at_31 (w1 hw) ?_
  refine Ow.iand (pc' := 34) (z := (x4 &&& (65535 : Int32))) B at_33 ?_
  obtain ⟨c17, hc17⟩ : ∃ z : Int32, (x4 &&& (65535 : Int32)).toUInt32.toUInt16.toUInt32.toInt32 = z := ⟨_, rfl⟩
  refine Ow.i2c (pc' := 35) (z := c17) (hz := hc17) B at_34 ?_
  refine Ow.istore (pc' := 37) (Ls' := #[.val (.int x0), .val (.int x1), .val (.int x2), .val (.int x3), .val (.int x4), .val (.int 1), .val (.int c14), .val (.int c15), .val (.int c16), .val (.int c17), .unset, .unset]) B at_35 ?_
  refine Ow.iload (pc' := 39) B at_37 ?_
  refine Ow.iload (pc' := 41) B at_39 ?_
  refine Ow.iload (pc' := 43) B at_41 ?_
  refine Ow.iload (pc' := 45) B at_43 ?_
  refine Ow.iload (pc' := 47) B at_45 ?_
  refine Ow.Go.old (fun o18 => ?_)
  refine Ow.callStatic (pc' := 50) (W := 0) (k' := 4) (n' := 8) (argsL := [(.int 1), (.int c14), (.int c15), (.int c16), (.int c17)]) (rest := []) B at_47 (w2 hw) (w3 hw) (w4 hw) (w5 hw) (con_make_17 hw G GS (px0 := c14) (px1 := c15) (px2 := c16) (px3 := c17) o18 ((Ow.cge0 hc14)) ((Ow.cle16 hc14)) (Ow.cnar hc14) (Ow.cnar hc15) (Ow.cnar hc16) (Ow.cnar hc17)) pd2 ?_
  intro vq19 h20 S21 q19 zh20
  obtain ⟨r22, r23, k24, rfl, Kh20, br22, br23, n25, f26, rfl⟩ := q19
  have lr23 : (r23 : Nat) < h20.size := f26.ltt
  have lr22 : (r22 : Nat) < h20.size := f26.lt
  refine Ow.Go.nr (S' := []) (st' := [(.ref r22)]) ?_
  refine Ow.astore (pc' := 52) (Ls' := #[.val (.int x0), .val (.int x1), .val (.int x2), .val (.int x3), .val (.int x4), .val (.int 1), .val (.int c14), .val (.int c15), .val (.int c16), .val (.int c17), .val (.ref r22), .unset]) B at_50 ?_
  refine Ow.iload (pc' := 54) B at_52 ?_
  refine Ow.ifF (pc' := 57) B at_54 (by decide) ?_
  refine Ow.iconst (pc' := 58) (x := 1) B at_57 ?_
  refine Ow.goto (pc' := 62) B at_58 ?_
  refine Ow.istore (pc' := 64) (Ls' := #[.val (.int x0), .val (.int x1), .val (.int x2), .val (.int x3), .val (.int x4), .val (.int 1), .val (.int c14), .val (.int c15), .val (.int c16), .val (.int c17), .val (.ref r22), .val (.int 1)]) B at_62 ?_
  refine Ow.iload (pc' := 66) B at_64 ?_
  refine Ow.iconst (pc' := 67) (x := 1) B at_66 ?_
  refine Ow.icmpF (pc' := 70) B at_67 (by decide) ?_
  refine Ow.iload (pc' := 72) B at_70 ?_
  refine Ow.Go.old (fun o27 => ?_)
  refine Ow.callStatic (pc' := 75) (W := 0) (k' := 4) (n' := 8) (argsL := [(.int c14)]) (rest := []) B at_72 (w48 hw) (w49 hw) (w4 hw) (w50 hw) (con_tchar_19 hw G GS (px0 := c14) o27 ((Ow.cge0 hc14)) ((Ow.cle16 hc14)) (Ow.cnar hc14)) pd12 ?_
  intro vq28 h29 S30 q28 zh29
  rcases q28 with q28 | q28
  ·obtain ⟨rfl, rfl, c31, rfl⟩ := q28
   refine Ow.Go.nr (S' := []) (st' := [(.int 0)]) ?_
   refine Ow.ifF (pc' := 78) B at_75 (by decide) ?_
   refine Ow.iconst (pc' := 79) (x := 0) B at_78 ?_
   refine Ow.istore (pc' := 81) (Ls' := #[.val (.int x0), .val (.int x1), .val (.int x2), .val (.int x3), .val (.int x4), .val (.int 1), .val (.int c14), .val (.int c15), .val (.int c16), .val (.int c17), .val (.ref r22), .val (.int 0)]) B at_79 ?_
   refine Ow.iload (pc' := 83) B at_81 ?_
   refine Ow.iconst (pc' := 84) (x := 2) B at_83 ?_
   refine Ow.icmpT (pc' := 98) B at_84 (by decide) ?_
   refine Ow.iload (pc' := 100) B at_98 ?_
   refine Ow.iconst (pc' := 101) (x := 3) B at_100 ?_
   refine Ow.icmpT (pc' := 115) B at_101 (by decide) ?_
   refine Ow.iload (pc' := 117) B at_115 ?_
   refine Ow.iconst (pc' := 118) (x := 4) B at_117 ?_
   refine Ow.icmpT (pc' := 132) B at_118 (by decide) ?_
   refine Ow.Go.old (fun o32 => ?_)
   exact Ow.Go.mono (k' := 22) (n' := 2112) (by decide) (by decide) (by simp) (seg132_2 hw G GS (dl0 := x0) (dl1 := x1) (dl2 := x2) (dl3 := x3) (dl4 := x4) (dl5 := (1 : Int32)) (dl6 := c14) (dl7 := c15) (dl8 := c16) (dl9 := c17) (pa0 := r22) (pa1 := r23) (px0 := c14) (pk0 := k24) B  o32 f26 (by omega) (by omega) ((Ow.cge0 hc14)) ((Ow.cle16 hc14)) (c31) (Ow.cnar hc14))
  ·obtain ⟨rfl, rfl, c33, rfl⟩ := q28
   refine Ow.Go.nr (S' := []) (st' := [(.int 1)]) ?_
   refine Ow.ifT (pc' := 81) B at_75 (by decide) ?_
   refine Ow.iload (pc' := 83) B at_81 ?_
   refine Ow.iconst (pc' := 84) (x := 2) B at_83 ?_
   refine Ow.icmpT (pc' := 98) B at_84 (by decide) ?_
   refine Ow.iload (pc' := 100) B at_98 ?_
   refine Ow.iconst (pc' := 101) (x := 3) B at_100 ?_
   refine Ow.icmpT (pc' := 115) B at_101 (by decide) ?_
   refine Ow.iload (pc' := 117) B at_115 ?_
   refine Ow.iconst (pc' := 118) (x := 4) B at_117 ?_
   refine Ow.icmpT (pc' := 132) B at_118 (by decide) ?_
   refine Ow.Go.old (fun o34 => ?_)
   exact Ow.Go.mono (k' := 22) (n' := 2112) (by decide) (by decide) (by simp) (seg132_3 hw G GS (dl0 := x0) (dl1 := x1) (dl2 := x2) (dl3 := x3) (dl4 := x4) (dl5 := (1 : Int32)) (dl6 := c14) (dl7 := c15) (dl8 := c16) (dl9 := c17) (pa0 := r22) (pa1 := r23) (px0 := c14) (pk0 := k24) B  o34 f26 (by omega) (by omega) ((Ow.cge0 hc14)) ((Ow.cle16 hc14)) (c33) (Ow.cnar hc14))
 ·refine Ow.irem (pc' := 6) (z := 2) (hz := hz5) B at_5 ?_
  refine Ow.istore (pc' := 8) (Ls' := #[.val (.int x0), .val (.int x1), .val (.int x2), .val (.int x3), .val (.int x4), .val (.int 2), .unset, .unset, .unset, .unset, .unset, .unset]) B at_6 ?_
  refine Ow.iloadN (pc' := 9) B at_8 ?_
  refine Ow.ldcInt (pc' := 11) B at_9 (w1 hw) ?_
  refine Ow.iand (pc' := 12) (z := (x1 &&& (65535 : Int32))) B at_11 ?_
  obtain ⟨c35, hc35⟩ : ∃ z : Int32, (x1 &&& (65535 : Int32)).toUInt32.toUInt16.toUInt32.toInt32 = z := ⟨_, rfl⟩
  refine Ow.i2c (pc' := 13) (z := c35) (hz := hc35) B at_12 ?_
  refine Ow.istore (pc' := 15) (Ls' := #[.val (.int x0), .val (.int x1), .val (.int x2), .val (.int x3), .val (.int x4), .val (.int 2), .val (.int c35), .unset, .unset, .unset, .unset, .unset]) B at_13 ?_
  refine Ow.iloadN (pc' := 16) B at_15 ?_
  refine Ow.ldcInt (pc' := 18) B at_16 (w1 hw) ?_
  refine Ow.iand (pc' := 19) (z := (x2 &&& (65535 : Int32))) B at_18 ?_
  obtain ⟨c36, hc36⟩ : ∃ z : Int32, (x2 &&& (65535 : Int32)).toUInt32.toUInt16.toUInt32.toInt32 = z := ⟨_, rfl⟩
  refine Ow.i2c (pc' := 20) (z := c36) (hz := hc36) B at_19 ?_
  refine Ow.istore (pc' := 22) (Ls' := #[.val (.int x0), .val (.int x1), .val (.int x2), .val (.int x3), .val (.int x4), .val (.int 2), .val (.int c35), .val (.int c36), .unset, .unset, .unset, .unset]) B at_20 ?_
  refine Ow.iloadN (pc' := 23) B at_22 ?_
  refine Ow.ldcInt (pc' := 25) B at_23 (w1 hw) ?_
  refine Ow.iand (pc' := 26) (z := (x3 &&& (65535 : Int32))) B at_25 ?_
  obtain ⟨c37, hc37⟩ : ∃ z : Int32, (x3 &&& (65535 : Int32)).toUInt32.toUInt16.toUInt32.toInt32 = z := ⟨_, rfl⟩
  refine Ow.i2c (pc' := 27) (z := c37) (hz := hc37) B at_26 ?_
  refine Ow.istore (pc' := 29) (Ls' := #[.val (.int x0), .val (.int x1), .val (.int x2), .val (.int x3), .val (.int x4), .val (.int 2), .val (.int c35), .val (.int c36), .val (.int c37), .unset, .unset, .unset]) B at_27 ?_
  refine Ow.iload (pc' := 31) B at_29 ?_
  refine Ow.ldcInt (pc' := 33) B at_31 (w1 hw) ?_
  refine Ow.iand (pc' := 34) (z := (x4 &&& (65535 : Int32))) B at_33 ?_
  obtain ⟨c38, hc38⟩ : ∃ z : Int32, (x4 &&& (65535 : Int32)).toUInt32.toUInt16.toUInt32.toInt32 = z := ⟨_, rfl⟩
  refine Ow.i2c (pc' := 35) (z := c38) (hz := hc38) B at_34 ?_
  refine Ow.istore (pc' := 37) (Ls' := #[.val (.int x0), .val (.int x1), .val (.int x2), .val (.int x3), .val (.int x4), .val (.int 2), .val (.int c35), .val (.int c36), .val (.int c37), .val (.int c38), .unset, .unset]) B at_35 ?_
  refine Ow.iload (pc' := 39) B at_37 ?_
  refine Ow.iload (pc' := 41) B at_39 ?_
  refine Ow.iload (pc' := 43) B at_41 ?_
  refine Ow.iload (pc' := 45) B at_43 ?_
  refine Ow.iload (pc' := 47) B at_45 ?_
  refine Ow.Go.old (fun o39 => ?_)
  refine Ow.callStatic (pc' := 50) (W := 0) (k' := 4) (n' := 12) (argsL := [(.int 2), (.int c35), (.int c36), (.int c37), (.int c38)]) (rest := []) B at_47 (w2 hw) (w3 hw) (w4 hw) (w5 hw) (con_make_59 hw G GS (px0 := c35) (px1 := c36) (px2 := c37) (px3 := c38) o39 ((Ow.cge0 hc35)) ((Ow.cle16 hc35)) ((Ow.cge0 hc36)) ((Ow.cle16 hc36)) (Ow.cnar hc35) (Ow.cnar hc36) (Ow.cnar hc37) (Ow.cnar hc38)) pd2 ?_
  intro vq40 h41 S42 q40 zh41
  obtain ⟨r43, r44, k45, rfl, Kh41, br43, br44, n46, f47, rfl⟩ := q40
  have lr44 : (r44 : Nat) < h41.size := f47.ltt
  have lr43 : (r43 : Nat) < h41.size := f47.lt
  refine Ow.Go.nr (S' := []) (st' := [(.ref r43)]) ?_
  refine Ow.astore (pc' := 52) (Ls' := #[.val (.int x0), .val (.int x1), .val (.int x2), .val (.int x3), .val (.int x4), .val (.int 2), .val (.int c35), .val (.int c36), .val (.int c37), .val (.int c38), .val (.ref r43), .unset]) B at_50 ?_
  refine Ow.iload (pc' := 54) B at_52 ?_
  refine Ow.ifF (pc' := 57) B at_54 (by decide) ?_
  refine Ow.iconst (pc' := 58) (x := 1) B at_57 ?_
  refine Ow.goto (pc' := 62) B at_58 ?_
  refine Ow.istore (pc' := 64) (Ls' := #[.val (.int x0), .val (.int x1), .val (.int x2), .val (.int x3), .val (.int x4), .val (.int 2), .val (.int c35), .val (.int c36), .val (.int c37), .val (.int c38), .val (.ref r43), .val (.int 1)]) B at_62 ?_
  refine Ow.iload (pc' := 66) B at_64 ?_
  refine Ow.iconst (pc' := 67) (x := 1) B at_66 ?_
  refine Ow.icmpF (pc' := 70) B at_67 (by decide) ?_
  refine Ow.iload (pc' := 72) B at_70 ?_
  refine Ow.Go.old (fun o48 => ?_)
  refine Ow.callStatic (pc' := 75) (W := 0) (k' := 4) (n' := 12) (argsL := [(.int c35)]) (rest := []) B at_72 (w48 hw) (w49 hw) (w4 hw) (w50 hw) (con_tchar_19 hw G GS (px0 := c35) o48 ((Ow.cge0 hc35)) ((Ow.cle16 hc35)) (Ow.cnar hc35)) pd12 ?_
  intro vq49 h50 S51 q49 zh50
  rcases q49 with q49 | q49
  ·obtain ⟨rfl, rfl, c52, rfl⟩ := q49
   refine Ow.Go.nr (S' := []) (st' := [(.int 0)]) ?_
   refine Ow.ifF (pc' := 78) B at_75 (by decide) ?_
   refine Ow.iconst (pc' := 79) (x := 0) B at_78 ?_
   refine Ow.istore (pc' := 81) (Ls' := #[.val (.int x0), .val (.int x1), .val (.int x2), .val (.int x3), .val (.int x4), .val (.int 2), .val (.int c35), .val (.int c36), .val (.int c37), .val (.int c38), .val (.ref r43), .val (.int 0)]) B at_79 ?_
   refine Ow.iload (pc' := 83) B at_81 ?_
   refine Ow.iconst (pc' := 84) (x := 2) B at_83 ?_
   refine Ow.icmpF (pc' := 87) B at_84 (by decide) ?_
   refine Ow.iload (pc' := 89) B at_87 ?_
   refine Ow.Go.old (fun o53 => ?_)
   refine Ow.callStatic (pc' := 92) (W := 0) (k' := 4) (n' := 12) (argsL := [(.int c36)]) (rest := []) B at_89 (w48 hw) (w49 hw) (w4 hw) (w50 hw) (con_tchar_19 hw G GS (px0 := c36) o53 ((Ow.cge0 hc36)) ((Ow.cle16 hc36)) (Ow.cnar hc36)) pd12 ?_
   intro vq54 h55 S56 q54 zh55
   rcases q54 with q54 | q54
   ·obtain ⟨rfl, rfl, c57, rfl⟩ := q54
    refine Ow.Go.nr (S' := []) (st' := [(.int 0)]) ?_
    refine Ow.ifF (pc' := 95) B at_92 (by decide) ?_
    refine Ow.iconst (pc' := 96) (x := 0) B at_95 ?_
    refine Ow.istore (pc' := 98) (Ls' := #[.val (.int x0), .val (.int x1), .val (.int x2), .val (.int x3), .val (.int x4), .val (.int 2), .val (.int c35), .val (.int c36), .val (.int c37), .val (.int c38), .val (.ref r43), .val (.int 0)]) B at_96 ?_
    refine Ow.iload (pc' := 100) B at_98 ?_
    refine Ow.iconst (pc' := 101) (x := 3) B at_100 ?_
    refine Ow.icmpT (pc' := 115) B at_101 (by decide) ?_
    refine Ow.iload (pc' := 117) B at_115 ?_
    refine Ow.iconst (pc' := 118) (x := 4) B at_117 ?_
    refine Ow.icmpT (pc' := 132) B at_118 (by decide) ?_
    refine Ow.Go.old (fun o58 => ?_)
    exact Ow.Go.mono (k' := 22) (n' := 2112) (by decide) (by decide) (by simp) (seg132_4 hw G GS (dl0 := x0) (dl1 := x1) (dl2 := x2) (dl3 := x3) (dl4 := x4) (dl5 := (2 : Int32)) (dl6 := c35) (dl7 := c36) (dl8 := c37) (dl9 := c38) (pa0 := r43) (pa1 := r44) (px0 := c35) (px1 := c36) (pk0 := k45) B  o58 f47 (by omega) (by omega) ((Ow.cge0 hc35)) ((Ow.cle16 hc35)) (c52) (Ow.cnar hc35) (Ow.cnar hc36))
   ·obtain ⟨rfl, rfl, c59, rfl⟩ := q54
    refine Ow.Go.nr (S' := []) (st' := [(.int 1)]) ?_
    refine Ow.ifT (pc' := 98) B at_92 (by decide) ?_
    refine Ow.iload (pc' := 100) B at_98 ?_
    refine Ow.iconst (pc' := 101) (x := 3) B at_100 ?_
    refine Ow.icmpT (pc' := 115) B at_101 (by decide) ?_
    refine Ow.iload (pc' := 117) B at_115 ?_
    refine Ow.iconst (pc' := 118) (x := 4) B at_117 ?_
    refine Ow.icmpT (pc' := 132) B at_118 (by decide) ?_
    refine Ow.Go.old (fun o60 => ?_)
    exact Ow.Go.mono (k' := 22) (n' := 2112) (by decide) (by decide) (by simp) (seg132_4 hw G GS (dl0 := x0) (dl1 := x1) (dl2 := x2) (dl3 := x3) (dl4 := x4) (dl5 := (2 : Int32)) (dl6 := c35) (dl7 := c36) (dl8 := c37) (dl9 := c38) (pa0 := r43) (pa1 := r44) (px0 := c35) (px1 := c36) (pk0 := k45) B  o60 f47 (by omega) (by omega) ((Ow.cge0 hc35)) ((Ow.cle16 hc35)) (c52) (Ow.cnar hc35) (Ow.cnar hc36))
  ·obtain ⟨rfl, rfl, c61, rfl⟩ := q49
   refine Ow.Go.nr (S' := []) (st' := [(.int 1)]) ?_
   refine Ow.ifT (pc' := 81) B at_75 (by decide) ?_
   refine Ow.iload (pc' := 83) B at_81 ?_
   refine Ow.iconst (pc' := 84) (x := 2) B at_83 ?_
   refine Ow.icmpF (pc' := 87) B at_84 (by decide) ?_
   refine Ow.iload (pc' := 89) B at_87 ?_
   refine Ow.Go.old (fun o62 => ?_)
   refine Ow.callStatic (pc' := 92) (W := 0) (k' := 4) (n' := 12) (argsL := [(.int c36)]) (rest := []) B at_89 (w48 hw) (w49 hw) (w4 hw) (w50 hw) (con_tchar_19 hw G GS (px0 := c36) o62 ((Ow.cge0 hc36)) ((Ow.cle16 hc36)) (Ow.cnar hc36)) pd12 ?_
   intro vq63 h64 S65 q63 zh64
   rcases q63 with q63 | q63
   ·obtain ⟨rfl, rfl, c66, rfl⟩ := q63
    refine Ow.Go.nr (S' := []) (st' := [(.int 0)]) ?_
    refine Ow.ifF (pc' := 95) B at_92 (by decide) ?_
    refine Ow.iconst (pc' := 96) (x := 0) B at_95 ?_
    refine Ow.istore (pc' := 98) (Ls' := #[.val (.int x0), .val (.int x1), .val (.int x2), .val (.int x3), .val (.int x4), .val (.int 2), .val (.int c35), .val (.int c36), .val (.int c37), .val (.int c38), .val (.ref r43), .val (.int 0)]) B at_96 ?_
    refine Ow.iload (pc' := 100) B at_98 ?_
    refine Ow.iconst (pc' := 101) (x := 3) B at_100 ?_
    refine Ow.icmpT (pc' := 115) B at_101 (by decide) ?_
    refine Ow.iload (pc' := 117) B at_115 ?_
    refine Ow.iconst (pc' := 118) (x := 4) B at_117 ?_
    refine Ow.icmpT (pc' := 132) B at_118 (by decide) ?_
    refine Ow.Go.old (fun o67 => ?_)
    exact Ow.Go.mono (k' := 20) (n' := 2048) (by decide) (by decide) (by simp) (seg132_5 hw G GS (dl0 := x0) (dl1 := x1) (dl2 := x2) (dl3 := x3) (dl4 := x4) (dl5 := (2 : Int32)) (dl6 := c35) (dl7 := c36) (dl8 := c37) (dl9 := c38) (pa0 := r43) (pa1 := r44) (px0 := c35) (px1 := c36) (pk0 := k45) B  o67 f47 (by omega) (by omega) ((Ow.cge0 hc35)) ((Ow.cle16 hc35)) ((Ow.cge0 hc36)) ((Ow.cle16 hc36)) (c61) (c66) (Ow.cnar hc35) (Ow.cnar hc36))
   ·obtain ⟨rfl, rfl, c68, rfl⟩ := q63
    refine Ow.Go.nr (S' := []) (st' := [(.int 1)]) ?_
    refine Ow.ifT (pc' := 98) B at_92 (by decide) ?_
    refine Ow.iload (pc' := 100) B at_98 ?_
    refine Ow.iconst (pc' := 101) (x := 3) B at_100 ?_
    refine Ow.icmpT (pc' := 115) B at_101 (by decide) ?_
    refine Ow.iload (pc' := 117) B at_115 ?_
    refine Ow.iconst (pc' := 118) (x := 4) B at_117 ?_
    refine Ow.icmpT (pc' := 132) B at_118 (by decide) ?_
    refine Ow.Go.old (fun o69 => ?_)
    exact Ow.Go.mono (k' := 20) (n' := 2048) (by decide) (by decide) (by simp) (seg132_6 hw G GS (dl0 := x0) (dl1 := x1) (dl2 := x2) (dl3 := x3) (dl4 := x4) (dl5 := (2 : Int32)) (dl6 := c35) (dl7 := c36) (dl8 := c37) (dl9 := c38) (pa0 := r43) (pa1 := r44) (px0 := c35) (px1 := c36) (pk0 := k45) B  o69 f47 (by omega) (by omega) ((Ow.cge0 hc35)) ((Ow.cle16 hc35)) ((Ow.cge0 hc36)) ((Ow.cle16 hc36)) (c61) (c68) (Ow.cnar hc35) (Ow.cnar hc36))
 ·refine Ow.irem (pc' := 6) (z := 3) (hz := hz5) B at_5 ?_
  refine Ow.istore (pc' := 8) (Ls' := #[.val (.int x0), .val (.int x1), .val (.int x2), .val (.int x3), .val (.int x4), .val (.int 3), .unset, .unset, .unset, .unset, .unset, .unset]) B at_6 ?_
  refine Ow.iloadN (pc' := 9) B at_8 ?_
  refine Ow.ldcInt (pc' := 11) B at_9 (w1 hw) ?_
  refine Ow.iand (pc' := 12) (z := (x1 &&& (65535 : Int32))) B at_11 ?_
  obtain ⟨c70, hc70⟩ : ∃ z : Int32, (x1 &&& (65535 : Int32)).toUInt32.toUInt16.toUInt32.toInt32 = z := ⟨_, rfl⟩
  refine Ow.i2c (pc' := 13) (z := c70) (hz := hc70) B at_12 ?_
  refine Ow.istore (pc' := 15) (Ls' := #[.val (.int x0), .val (.int x1), .val (.int x2), .val (.int x3), .val (.int x4), .val (.int 3), .val (.int c70), .unset, .unset, .unset, .unset, .unset]) B at_13 ?_
  refine Ow.iloadN (pc' := 16) B at_15 ?_
  refine Ow.ldcInt (pc' := 18) B at_16 (w1 hw) ?_
  refine Ow.iand (pc' := 19) (z := (x2 &&& (65535 : Int32))) B at_18 ?_
  obtain ⟨c71, hc71⟩ : ∃ z : Int32, (x2 &&& (65535 : Int32)).toUInt32.toUInt16.toUInt32.toInt32 = z := ⟨_, rfl⟩
  refine Ow.i2c (pc' := 20) (z := c71) (hz := hc71) B at_19 ?_
  refine Ow.istore (pc' := 22) (Ls' := #[.val (.int x0), .val (.int x1), .val (.int x2), .val (.int x3), .val (.int x4), .val (.int 3), .val (.int c70), .val (.int c71), .unset, .unset, .unset, .unset]) B at_20 ?_
  refine Ow.iloadN (pc' := 23) B at_22 ?_
  refine Ow.ldcInt (pc' := 25) B at_23 (w1 hw) ?_
  refine Ow.iand (pc' := 26) (z := (x3 &&& (65535 : Int32))) B at_25 ?_
  obtain ⟨c72, hc72⟩ : ∃ z : Int32, (x3 &&& (65535 : Int32)).toUInt32.toUInt16.toUInt32.toInt32 = z := ⟨_, rfl⟩
  refine Ow.i2c (pc' := 27) (z := c72) (hz := hc72) B at_26 ?_
  refine Ow.istore (pc' := 29) (Ls' := #[.val (.int x0), .val (.int x1), .val (.int x2), .val (.int x3), .val (.int x4), .val (.int 3), .val (.int c70), .val (.int c71), .val (.int c72), .unset, .unset, .unset]) B at_27 ?_
  refine Ow.iload (pc' := 31) B at_29 ?_
  refine Ow.ldcInt (pc' := 33) B at_31 (w1 hw) ?_
  refine Ow.iand (pc' := 34) (z := (x4 &&& (65535 : Int32))) B at_33 ?_
  obtain ⟨c73, hc73⟩ : ∃ z : Int32, (x4 &&& (65535 : Int32)).toUInt32.toUInt16.toUInt32.toInt32 = z := ⟨_, rfl⟩
  refine Ow.i2c (pc' := 35) (z := c73) (hz := hc73) B at_34 ?_
  refine Ow.istore (pc' := 37) (Ls' := #[.val (.int x0), .val (.int x1), .val (.int x2), .val (.int x3), .val (.int x4), .val (.int 3), .val (.int c70), .val (.int c71), .val (.int c72), .val (.int c73), .unset, .unset]) B at_35 ?_
  refine Ow.iload (pc' := 39) B at_37 ?_
  refine Ow.iload (pc' := 41) B at_39 ?_
  refine Ow.iload (pc' := 43) B at_41 ?_
  refine Ow.iload (pc' := 45) B at_43 ?_
  refine Ow.iload (pc' := 47) B at_45 ?_
  refine Ow.Go.old (fun o74 => ?_)
  refine Ow.callStatic (pc' := 50) (W := 0) (k' := 4) (n' := 16) (argsL := [(.int 3), (.int c70), (.int c71), (.int c72), (.int c73)]) (rest := []) B at_47 (w2 hw) (w3 hw) (w4 hw) (w5 hw) (con_make_91 hw G GS (px0 := c70) (px1 := c71) (px2 := c72) (px3 := c73) o74 ((Ow.cge0 hc70)) ((Ow.cle16 hc70)) ((Ow.cge0 hc71)) ((Ow.cle16 hc71)) ((Ow.cge0 hc72)) ((Ow.cle16 hc72)) (Ow.cnar hc70) (Ow.cnar hc71) (Ow.cnar hc72) (Ow.cnar hc73)) pd2 ?_
  intro vq75 h76 S77 q75 zh76
  obtain ⟨r78, r79, k80, rfl, Kh76, br78, br79, n81, f82, rfl⟩ := q75
  have lr79 : (r79 : Nat) < h76.size := f82.ltt
  have lr78 : (r78 : Nat) < h76.size := f82.lt
  refine Ow.Go.nr (S' := []) (st' := [(.ref r78)]) ?_
  refine Ow.astore (pc' := 52) (Ls' := #[.val (.int x0), .val (.int x1), .val (.int x2), .val (.int x3), .val (.int x4), .val (.int 3), .val (.int c70), .val (.int c71), .val (.int c72), .val (.int c73), .val (.ref r78), .unset]) B at_50 ?_
  refine Ow.iload (pc' := 54) B at_52 ?_
  refine Ow.ifF (pc' := 57) B at_54 (by decide) ?_
  refine Ow.iconst (pc' := 58) (x := 1) B at_57 ?_
  refine Ow.goto (pc' := 62) B at_58 ?_
  refine Ow.istore (pc' := 64) (Ls' := #[.val (.int x0), .val (.int x1), .val (.int x2), .val (.int x3), .val (.int x4), .val (.int 3), .val (.int c70), .val (.int c71), .val (.int c72), .val (.int c73), .val (.ref r78), .val (.int 1)]) B at_62 ?_
  refine Ow.iload (pc' := 66) B at_64 ?_
  refine Ow.iconst (pc' := 67) (x := 1) B at_66 ?_
  refine Ow.icmpF (pc' := 70) B at_67 (by decide) ?_
  refine Ow.iload (pc' := 72) B at_70 ?_
  refine Ow.Go.old (fun o83 => ?_)
  refine Ow.callStatic (pc' := 75) (W := 0) (k' := 4) (n' := 16) (argsL := [(.int c70)]) (rest := []) B at_72 (w48 hw) (w49 hw) (w4 hw) (w50 hw) (con_tchar_19 hw G GS (px0 := c70) o83 ((Ow.cge0 hc70)) ((Ow.cle16 hc70)) (Ow.cnar hc70)) pd12 ?_
  intro vq84 h85 S86 q84 zh85
  rcases q84 with q84 | q84
  ·obtain ⟨rfl, rfl, c87, rfl⟩ := q84
   refine Ow.Go.nr (S' := []) (st' := [(.int 0)]) ?_
   refine Ow.ifF (pc' := 78) B at_75 (by decide) ?_
   refine Ow.iconst (pc' := 79) (x := 0) B at_78 ?_
   refine Ow.istore (pc' := 81) (Ls' := #[.val (.int x0), .val (.int x1), .val (.int x2), .val (.int x3), .val (.int x4), .val (.int 3), .val (.int c70), .val (.int c71), .val (.int c72), .val (.int c73), .val (.ref r78), .val (.int 0)]) B at_79 ?_
   refine Ow.iload (pc' := 83) B at_81 ?_
   refine Ow.iconst (pc' := 84) (x := 2) B at_83 ?_
   refine Ow.icmpF (pc' := 87) B at_84 (by decide) ?_
   refine Ow.iload (pc' := 89) B at_87 ?_
   refine Ow.Go.old (fun o88 => ?_)
   refine Ow.callStatic (pc' := 92) (W := 0) (k' := 4) (n' := 16) (argsL := [(.int c71)]) (rest := []) B at_89 (w48 hw) (w49 hw) (w4 hw) (w50 hw) (con_tchar_19 hw G GS (px0 := c71) o88 ((Ow.cge0 hc71)) ((Ow.cle16 hc71)) (Ow.cnar hc71)) pd12 ?_
   intro vq89 h90 S91 q89 zh90
   rcases q89 with q89 | q89
   ·obtain ⟨rfl, rfl, c92, rfl⟩ := q89
    refine Ow.Go.nr (S' := []) (st' := [(.int 0)]) ?_
    refine Ow.ifF (pc' := 95) B at_92 (by decide) ?_
    refine Ow.iconst (pc' := 96) (x := 0) B at_95 ?_
    refine Ow.istore (pc' := 98) (Ls' := #[.val (.int x0), .val (.int x1), .val (.int x2), .val (.int x3), .val (.int x4), .val (.int 3), .val (.int c70), .val (.int c71), .val (.int c72), .val (.int c73), .val (.ref r78), .val (.int 0)]) B at_96 ?_
    refine Ow.iload (pc' := 100) B at_98 ?_
    refine Ow.iconst (pc' := 101) (x := 3) B at_100 ?_
    refine Ow.icmpF (pc' := 104) B at_101 (by decide) ?_
    refine Ow.iload (pc' := 106) B at_104 ?_
    refine Ow.Go.old (fun o93 => ?_)
    refine Ow.callStatic (pc' := 109) (W := 0) (k' := 4) (n' := 16) (argsL := [(.int c72)]) (rest := []) B at_106 (w48 hw) (w49 hw) (w4 hw) (w50 hw) (con_tchar_19 hw G GS (px0 := c72) o93 ((Ow.cge0 hc72)) ((Ow.cle16 hc72)) (Ow.cnar hc72)) pd12 ?_
    intro vq94 h95 S96 q94 zh95
    rcases q94 with q94 | q94
    ·obtain ⟨rfl, rfl, c97, rfl⟩ := q94
     refine Ow.Go.nr (S' := []) (st' := [(.int 0)]) ?_
     refine Ow.ifF (pc' := 112) B at_109 (by decide) ?_
     refine Ow.iconst (pc' := 113) (x := 0) B at_112 ?_
     refine Ow.istore (pc' := 115) (Ls' := #[.val (.int x0), .val (.int x1), .val (.int x2), .val (.int x3), .val (.int x4), .val (.int 3), .val (.int c70), .val (.int c71), .val (.int c72), .val (.int c73), .val (.ref r78), .val (.int 0)]) B at_113 ?_
     refine Ow.iload (pc' := 117) B at_115 ?_
     refine Ow.iconst (pc' := 118) (x := 4) B at_117 ?_
     refine Ow.icmpT (pc' := 132) B at_118 (by decide) ?_
     refine Ow.Go.old (fun o98 => ?_)
     exact Ow.Go.mono (k' := 22) (n' := 2112) (by decide) (by decide) (by simp) (seg132_7 hw G GS (dl0 := x0) (dl1 := x1) (dl2 := x2) (dl3 := x3) (dl4 := x4) (dl5 := (3 : Int32)) (dl6 := c70) (dl7 := c71) (dl8 := c72) (dl9 := c73) (pa0 := r78) (pa1 := r79) (px0 := c70) (px1 := c71) (px2 := c72) (pk0 := k80) B  o98 f82 (by omega) (by omega) ((Ow.cge0 hc70)) ((Ow.cle16 hc70)) (c87) (Ow.cnar hc70) (Ow.cnar hc71) (Ow.cnar hc72))
    ·obtain ⟨rfl, rfl, c99, rfl⟩ := q94
     refine Ow.Go.nr (S' := []) (st' := [(.int 1)]) ?_
     refine Ow.ifT (pc' := 115) B at_109 (by decide) ?_
     refine Ow.iload (pc' := 117) B at_115 ?_
     refine Ow.iconst (pc' := 118) (x := 4) B at_117 ?_
     refine Ow.icmpT (pc' := 132) B at_118 (by decide) ?_
     refine Ow.Go.old (fun o100 => ?_)
     exact Ow.Go.mono (k' := 22) (n' := 2112) (by decide) (by decide) (by simp) (seg132_7 hw G GS (dl0 := x0) (dl1 := x1) (dl2 := x2) (dl3 := x3) (dl4 := x4) (dl5 := (3 : Int32)) (dl6 := c70) (dl7 := c71) (dl8 := c72) (dl9 := c73) (pa0 := r78) (pa1 := r79) (px0 := c70) (px1 := c71) (px2 := c72) (pk0 := k80) B  o100 f82 (by omega) (by omega) ((Ow.cge0 hc70)) ((Ow.cle16 hc70)) (c87) (Ow.cnar hc70) (Ow.cnar hc71) (Ow.cnar hc72))
   ·obtain ⟨rfl, rfl, c101, rfl⟩ := q89
    refine Ow.Go.nr (S' := []) (st' := [(.int 1)]) ?_
    refine Ow.ifT (pc' := 98) B at_92 (by decide) ?_
    refine Ow.iload (pc' := 100) B at_98 ?_
    refine Ow.iconst (pc' := 101) (x := 3) B at_100 ?_
    refine Ow.icmpF (pc' := 104) B at_101 (by decide) ?_
    refine Ow.iload (pc' := 106) B at_104 ?_
    refine Ow.Go.old (fun o102 => ?_)
    refine Ow.callStatic (pc' := 109) (W := 0) (k' := 4) (n' := 16) (argsL := [(.int c72)]) (rest := []) B at_106 (w48 hw) (w49 hw) (w4 hw) (w50 hw) (con_tchar_19 hw G GS (px0 := c72) o102 ((Ow.cge0 hc72)) ((Ow.cle16 hc72)) (Ow.cnar hc72)) pd12 ?_
    intro vq103 h104 S105 q103 zh104
    rcases q103 with q103 | q103
    ·obtain ⟨rfl, rfl, c106, rfl⟩ := q103
     refine Ow.Go.nr (S' := []) (st' := [(.int 0)]) ?_
     refine Ow.ifF (pc' := 112) B at_109 (by decide) ?_
     refine Ow.iconst (pc' := 113) (x := 0) B at_112 ?_
     refine Ow.istore (pc' := 115) (Ls' := #[.val (.int x0), .val (.int x1), .val (.int x2), .val (.int x3), .val (.int x4), .val (.int 3), .val (.int c70), .val (.int c71), .val (.int c72), .val (.int c73), .val (.ref r78), .val (.int 0)]) B at_113 ?_
     refine Ow.iload (pc' := 117) B at_115 ?_
     refine Ow.iconst (pc' := 118) (x := 4) B at_117 ?_
     refine Ow.icmpT (pc' := 132) B at_118 (by decide) ?_
     refine Ow.Go.old (fun o107 => ?_)
     exact Ow.Go.mono (k' := 22) (n' := 2112) (by decide) (by decide) (by simp) (seg132_7 hw G GS (dl0 := x0) (dl1 := x1) (dl2 := x2) (dl3 := x3) (dl4 := x4) (dl5 := (3 : Int32)) (dl6 := c70) (dl7 := c71) (dl8 := c72) (dl9 := c73) (pa0 := r78) (pa1 := r79) (px0 := c70) (px1 := c71) (px2 := c72) (pk0 := k80) B  o107 f82 (by omega) (by omega) ((Ow.cge0 hc70)) ((Ow.cle16 hc70)) (c87) (Ow.cnar hc70) (Ow.cnar hc71) (Ow.cnar hc72))
    ·obtain ⟨rfl, rfl, c108, rfl⟩ := q103
     refine Ow.Go.nr (S' := []) (st' := [(.int 1)]) ?_
     refine Ow.ifT (pc' := 115) B at_109 (by decide) ?_
     refine Ow.iload (pc' := 117) B at_115 ?_
     refine Ow.iconst (pc' := 118) (x := 4) B at_117 ?_
     refine Ow.icmpT (pc' := 132) B at_118 (by decide) ?_
     refine Ow.Go.old (fun o109 => ?_)
     exact Ow.Go.mono (k' := 22) (n' := 2112) (by decide) (by decide) (by simp) (seg132_7 hw G GS (dl0 := x0) (dl1 := x1) (dl2 := x2) (dl3 := x3) (dl4 := x4) (dl5 := (3 : Int32)) (dl6 := c70) (dl7 := c71) (dl8 := c72) (dl9 := c73) (pa0 := r78) (pa1 := r79) (px0 := c70) (px1 := c71) (px2 := c72) (pk0 := k80) B  o109 f82 (by omega) (by omega) ((Ow.cge0 hc70)) ((Ow.cle16 hc70)) (c87) (Ow.cnar hc70) (Ow.cnar hc71) (Ow.cnar hc72))
  ·obtain ⟨rfl, rfl, c110, rfl⟩ := q84
   refine Ow.Go.nr (S' := []) (st' := [(.int 1)]) ?_
   refine Ow.ifT (pc' := 81) B at_75 (by decide) ?_
   refine Ow.iload (pc' := 83) B at_81 ?_
   refine Ow.iconst (pc' := 84) (x := 2) B at_83 ?_
   refine Ow.icmpF (pc' := 87) B at_84 (by decide) ?_
   refine Ow.iload (pc' := 89) B at_87 ?_
   refine Ow.Go.old (fun o111 => ?_)
   refine Ow.callStatic (pc' := 92) (W := 0) (k' := 4) (n' := 16) (argsL := [(.int c71)]) (rest := []) B at_89 (w48 hw) (w49 hw) (w4 hw) (w50 hw) (con_tchar_19 hw G GS (px0 := c71) o111 ((Ow.cge0 hc71)) ((Ow.cle16 hc71)) (Ow.cnar hc71)) pd12 ?_
   intro vq112 h113 S114 q112 zh113
   rcases q112 with q112 | q112
   ·obtain ⟨rfl, rfl, c115, rfl⟩ := q112
    refine Ow.Go.nr (S' := []) (st' := [(.int 0)]) ?_
    refine Ow.ifF (pc' := 95) B at_92 (by decide) ?_
    refine Ow.iconst (pc' := 96) (x := 0) B at_95 ?_
    refine Ow.istore (pc' := 98) (Ls' := #[.val (.int x0), .val (.int x1), .val (.int x2), .val (.int x3), .val (.int x4), .val (.int 3), .val (.int c70), .val (.int c71), .val (.int c72), .val (.int c73), .val (.ref r78), .val (.int 0)]) B at_96 ?_
    refine Ow.iload (pc' := 100) B at_98 ?_
    refine Ow.iconst (pc' := 101) (x := 3) B at_100 ?_
    refine Ow.icmpF (pc' := 104) B at_101 (by decide) ?_
    refine Ow.iload (pc' := 106) B at_104 ?_
    refine Ow.Go.old (fun o116 => ?_)
    refine Ow.callStatic (pc' := 109) (W := 0) (k' := 4) (n' := 16) (argsL := [(.int c72)]) (rest := []) B at_106 (w48 hw) (w49 hw) (w4 hw) (w50 hw) (con_tchar_19 hw G GS (px0 := c72) o116 ((Ow.cge0 hc72)) ((Ow.cle16 hc72)) (Ow.cnar hc72)) pd12 ?_
    intro vq117 h118 S119 q117 zh118
    rcases q117 with q117 | q117
    ·obtain ⟨rfl, rfl, c120, rfl⟩ := q117
     refine Ow.Go.nr (S' := []) (st' := [(.int 0)]) ?_
     refine Ow.ifF (pc' := 112) B at_109 (by decide) ?_
     refine Ow.iconst (pc' := 113) (x := 0) B at_112 ?_
     refine Ow.istore (pc' := 115) (Ls' := #[.val (.int x0), .val (.int x1), .val (.int x2), .val (.int x3), .val (.int x4), .val (.int 3), .val (.int c70), .val (.int c71), .val (.int c72), .val (.int c73), .val (.ref r78), .val (.int 0)]) B at_113 ?_
     refine Ow.iload (pc' := 117) B at_115 ?_
     refine Ow.iconst (pc' := 118) (x := 4) B at_117 ?_
     refine Ow.icmpT (pc' := 132) B at_118 (by decide) ?_
     refine Ow.Go.old (fun o121 => ?_)
     exact Ow.Go.mono (k' := 20) (n' := 2048) (by decide) (by decide) (by simp) (seg132_8 hw G GS (dl0 := x0) (dl1 := x1) (dl2 := x2) (dl3 := x3) (dl4 := x4) (dl5 := (3 : Int32)) (dl6 := c70) (dl7 := c71) (dl8 := c72) (dl9 := c73) (pa0 := r78) (pa1 := r79) (px0 := c70) (px1 := c71) (px2 := c72) (pk0 := k80) B  o121 f82 (by omega) (by omega) ((Ow.cge0 hc70)) ((Ow.cle16 hc70)) ((Ow.cge0 hc71)) ((Ow.cle16 hc71)) (c110) (c115) (Ow.cnar hc70) (Ow.cnar hc71) (Ow.cnar hc72))
    ·obtain ⟨rfl, rfl, c122, rfl⟩ := q117
     refine Ow.Go.nr (S' := []) (st' := [(.int 1)]) ?_
     refine Ow.ifT (pc' := 115) B at_109 (by decide) ?_
     refine Ow.iload (pc' := 117) B at_115 ?_
     refine Ow.iconst (pc' := 118) (x := 4) B at_117 ?_
     refine Ow.icmpT (pc' := 132) B at_118 (by decide) ?_
     refine Ow.Go.old (fun o123 => ?_)
     exact Ow.Go.mono (k' := 20) (n' := 2048) (by decide) (by decide) (by simp) (seg132_8 hw G GS (dl0 := x0) (dl1 := x1) (dl2 := x2) (dl3 := x3) (dl4 := x4) (dl5 := (3 : Int32)) (dl6 := c70) (dl7 := c71) (dl8 := c72) (dl9 := c73) (pa0 := r78) (pa1 := r79) (px0 := c70) (px1 := c71) (px2 := c72) (pk0 := k80) B  o123 f82 (by omega) (by omega) ((Ow.cge0 hc70)) ((Ow.cle16 hc70)) ((Ow.cge0 hc71)) ((Ow.cle16 hc71)) (c110) (c115) (Ow.cnar hc70) (Ow.cnar hc71) (Ow.cnar hc72))
   ·obtain ⟨rfl, rfl, c124, rfl⟩ := q112
    refine Ow.Go.nr (S' := []) (st' := [(.int 1)]) ?_
    refine Ow.ifT (pc' := 98) B at_92 (by decide) ?_
    refine Ow.iload (pc' := 100) B at_98 ?_
    refine Ow.iconst (pc' := 101) (x := 3) B at_100 ?_
    refine Ow.icmpF (pc' := 104) B at_101 (by decide) ?_
    refine Ow.iload (pc' := 106) B at_104 ?_
    refine Ow.Go.old (fun o125 => ?_)
    refine Ow.callStatic (pc' := 109) (W := 0) (k' := 4) (n' := 16) (argsL := [(.int c72)]) (rest := []) B at_106 (w48 hw) (w49 hw) (w4 hw) (w50 hw) (con_tchar_19 hw G GS (px0 := c72) o125 ((Ow.cge0 hc72)) ((Ow.cle16 hc72)) (Ow.cnar hc72)) pd12 ?_
    intro vq126 h127 S128 q126 zh127
    rcases q126 with q126 | q126
    ·obtain ⟨rfl, rfl, c129, rfl⟩ := q126
     refine Ow.Go.nr (S' := []) (st' := [(.int 0)]) ?_
     refine Ow.ifF (pc' := 112) B at_109 (by decide) ?_
     refine Ow.iconst (pc' := 113) (x := 0) B at_112 ?_
     refine Ow.istore (pc' := 115) (Ls' := #[.val (.int x0), .val (.int x1), .val (.int x2), .val (.int x3), .val (.int x4), .val (.int 3), .val (.int c70), .val (.int c71), .val (.int c72), .val (.int c73), .val (.ref r78), .val (.int 0)]) B at_113 ?_
     refine Ow.iload (pc' := 117) B at_115 ?_
     refine Ow.iconst (pc' := 118) (x := 4) B at_117 ?_
     refine Ow.icmpT (pc' := 132) B at_118 (by decide) ?_
     refine Ow.Go.old (fun o130 => ?_)
     exact Ow.Go.mono (k' := 18) (n' := 1984) (by decide) (by decide) (by simp) (seg132_9 hw G GS (dl0 := x0) (dl1 := x1) (dl2 := x2) (dl3 := x3) (dl4 := x4) (dl5 := (3 : Int32)) (dl6 := c70) (dl7 := c71) (dl8 := c72) (dl9 := c73) (pa0 := r78) (pa1 := r79) (px0 := c70) (px1 := c71) (px2 := c72) (pk0 := k80) B  o130 f82 (by omega) (by omega) ((Ow.cge0 hc70)) ((Ow.cle16 hc70)) ((Ow.cge0 hc71)) ((Ow.cle16 hc71)) ((Ow.cge0 hc72)) ((Ow.cle16 hc72)) (c110) (c124) (c129) (Ow.cnar hc70) (Ow.cnar hc71) (Ow.cnar hc72))
    ·obtain ⟨rfl, rfl, c131, rfl⟩ := q126
     refine Ow.Go.nr (S' := []) (st' := [(.int 1)]) ?_
     refine Ow.ifT (pc' := 115) B at_109 (by decide) ?_
     refine Ow.iload (pc' := 117) B at_115 ?_
     refine Ow.iconst (pc' := 118) (x := 4) B at_117 ?_
     refine Ow.icmpT (pc' := 132) B at_118 (by decide) ?_
     refine Ow.Go.old (fun o132 => ?_)
     exact Ow.Go.mono (k' := 18) (n' := 1984) (by decide) (by decide) (by simp) (seg132_10 hw G GS (dl0 := x0) (dl1 := x1) (dl2 := x2) (dl3 := x3) (dl4 := x4) (dl5 := (3 : Int32)) (dl6 := c70) (dl7 := c71) (dl8 := c72) (dl9 := c73) (pa0 := r78) (pa1 := r79) (px0 := c70) (px1 := c71) (px2 := c72) (pk0 := k80) B  o132 f82 (by omega) (by omega) ((Ow.cge0 hc70)) ((Ow.cle16 hc70)) ((Ow.cge0 hc71)) ((Ow.cle16 hc71)) ((Ow.cge0 hc72)) ((Ow.cle16 hc72)) (c110) (c124) (c131) (Ow.cnar hc70) (Ow.cnar hc71) (Ow.cnar hc72))
 ·refine Ow.irem (pc' := 6) (z := 4) (hz := hz5) B at_5 ?_
  refine Ow.istore (pc' := 8) (Ls' := #[.val (.int x0), .val (.int x1), .val (.int x2), .val (.int x3), .val (.int x4), .val (.int 4), .unset, .unset, .unset, .unset, .unset, .unset]) B at_6 ?_
  refine Ow.iloadN (pc' := 9) B at_8 ?_
  refine Ow.ldcInt (pc' := 11) B at_9 (w1 hw) ?_
  refine Ow.iand (pc' := 12) (z := (x1 &&& (65535 : Int32))) B at_11 ?_
  obtain ⟨c133, hc133⟩ : ∃ z : Int32, (x1 &&& (65535 : Int32)).toUInt32.toUInt16.toUInt32.toInt32 = z := ⟨_, rfl⟩
  refine Ow.i2c (pc' := 13) (z := c133) (hz := hc133) B at_12 ?_
  refine Ow.istore (pc' := 15) (Ls' := #[.val (.int x0), .val (.int x1), .val (.int x2), .val (.int x3), .val (.int x4), .val (.int 4), .val (.int c133), .unset, .unset, .unset, .unset, .unset]) B at_13 ?_
  refine Ow.iloadN (pc' := 16) B at_15 ?_
  refine Ow.ldcInt (pc' := 18) B at_16 (w1 hw) ?_
  refine Ow.iand (pc' := 19) (z := (x2 &&& (65535 : Int32))) B at_18 ?_
  obtain ⟨c134, hc134⟩ : ∃ z : Int32, (x2 &&& (65535 : Int32)).toUInt32.toUInt16.toUInt32.toInt32 = z := ⟨_, rfl⟩
  refine Ow.i2c (pc' := 20) (z := c134) (hz := hc134) B at_19 ?_
  refine Ow.istore (pc' := 22) (Ls' := #[.val (.int x0), .val (.int x1), .val (.int x2), .val (.int x3), .val (.int x4), .val (.int 4), .val (.int c133), .val (.int c134), .unset, .unset, .unset, .unset]) B at_20 ?_
  refine Ow.iloadN (pc' := 23) B at_22 ?_
  refine Ow.ldcInt (pc' := 25) B at_23 (w1 hw) ?_
  refine Ow.iand (pc' := 26) (z := (x3 &&& (65535 : Int32))) B at_25 ?_
  obtain ⟨c135, hc135⟩ : ∃ z : Int32, (x3 &&& (65535 : Int32)).toUInt32.toUInt16.toUInt32.toInt32 = z := ⟨_, rfl⟩
  refine Ow.i2c (pc' := 27) (z := c135) (hz := hc135) B at_26 ?_
  refine Ow.istore (pc' := 29) (Ls' := #[.val (.int x0), .val (.int x1), .val (.int x2), .val (.int x3), .val (.int x4), .val (.int 4), .val (.int c133), .val (.int c134), .val (.int c135), .unset, .unset, .unset]) B at_27 ?_
  refine Ow.iload (pc' := 31) B at_29 ?_
  refine Ow.ldcInt (pc' := 33) B at_31 (w1 hw) ?_
  refine Ow.iand (pc' := 34) (z := (x4 &&& (65535 : Int32))) B at_33 ?_
  obtain ⟨c136, hc136⟩ : ∃ z : Int32, (x4 &&& (65535 : Int32)).toUInt32.toUInt16.toUInt32.toInt32 = z := ⟨_, rfl⟩
  refine Ow.i2c (pc' := 35) (z := c136) (hz := hc136) B at_34 ?_
  refine Ow.istore (pc' := 37) (Ls' := #[.val (.int x0), .val (.int x1), .val (.int x2), .val (.int x3), .val (.int x4), .val (.int 4), .val (.int c133), .val (.int c134), .val (.int c135), .val (.int c136), .unset, .unset]) B at_35 ?_
  refine Ow.iload (pc' := 39) B at_37 ?_
  refine Ow.iload (pc' := 41) B at_39 ?_
  refine Ow.iload (pc' := 43) B at_41 ?_
  refine Ow.iload (pc' := 45) B at_43 ?_
  refine Ow.iload (pc' := 47) B at_45 ?_
  refine Ow.Go.old (fun o137 => ?_)
  refine Ow.callStatic (pc' := 50) (W := 0) (k' := 4) (n' := 20) (argsL := [(.int 4), (.int c133), (.int c134), (.int c135), (.int c136)]) (rest := []) B at_47 (w2 hw) (w3 hw) (w4 hw) (w5 hw) (con_make_131 hw G GS (px0 := c133) (px1 := c134) (px2 := c135) (px3 := c136) o137 ((Ow.cge0 hc133)) ((Ow.cle16 hc133)) ((Ow.cge0 hc134)) ((Ow.cle16 hc134)) ((Ow.cge0 hc135)) ((Ow.cle16 hc135)) ((Ow.cge0 hc136)) ((Ow.cle16 hc136)) (Ow.cnar hc133) (Ow.cnar hc134) (Ow.cnar hc135) (Ow.cnar hc136)) pd2 ?_
  intro vq138 h139 S140 q138 zh139
  obtain ⟨r141, r142, k143, rfl, Kh139, br141, br142, n144, f145, rfl⟩ := q138
  have lr142 : (r142 : Nat) < h139.size := f145.ltt
  have lr141 : (r141 : Nat) < h139.size := f145.lt
  refine Ow.Go.nr (S' := []) (st' := [(.ref r141)]) ?_
  refine Ow.astore (pc' := 52) (Ls' := #[.val (.int x0), .val (.int x1), .val (.int x2), .val (.int x3), .val (.int x4), .val (.int 4), .val (.int c133), .val (.int c134), .val (.int c135), .val (.int c136), .val (.ref r141), .unset]) B at_50 ?_
  refine Ow.iload (pc' := 54) B at_52 ?_
  refine Ow.ifF (pc' := 57) B at_54 (by decide) ?_
  refine Ow.iconst (pc' := 58) (x := 1) B at_57 ?_
  refine Ow.goto (pc' := 62) B at_58 ?_
  refine Ow.istore (pc' := 64) (Ls' := #[.val (.int x0), .val (.int x1), .val (.int x2), .val (.int x3), .val (.int x4), .val (.int 4), .val (.int c133), .val (.int c134), .val (.int c135), .val (.int c136), .val (.ref r141), .val (.int 1)]) B at_62 ?_
  refine Ow.iload (pc' := 66) B at_64 ?_
  refine Ow.iconst (pc' := 67) (x := 1) B at_66 ?_
  refine Ow.icmpF (pc' := 70) B at_67 (by decide) ?_
  refine Ow.iload (pc' := 72) B at_70 ?_
  refine Ow.Go.old (fun o146 => ?_)
  refine Ow.callStatic (pc' := 75) (W := 0) (k' := 4) (n' := 20) (argsL := [(.int c133)]) (rest := []) B at_72 (w48 hw) (w49 hw) (w4 hw) (w50 hw) (con_tchar_19 hw G GS (px0 := c133) o146 ((Ow.cge0 hc133)) ((Ow.cle16 hc133)) (Ow.cnar hc133)) pd12 ?_
  intro vq147 h148 S149 q147 zh148
  rcases q147 with q147 | q147
  ·obtain ⟨rfl, rfl, c150, rfl⟩ := q147
   refine Ow.Go.nr (S' := []) (st' := [(.int 0)]) ?_
   refine Ow.ifF (pc' := 78) B at_75 (by decide) ?_
   refine Ow.iconst (pc' := 79) (x := 0) B at_78 ?_
   refine Ow.istore (pc' := 81) (Ls' := #[.val (.int x0), .val (.int x1), .val (.int x2), .val (.int x3), .val (.int x4), .val (.int 4), .val (.int c133), .val (.int c134), .val (.int c135), .val (.int c136), .val (.ref r141), .val (.int 0)]) B at_79 ?_
   refine Ow.iload (pc' := 83) B at_81 ?_
   refine Ow.iconst (pc' := 84) (x := 2) B at_83 ?_
   refine Ow.icmpF (pc' := 87) B at_84 (by decide) ?_
   refine Ow.iload (pc' := 89) B at_87 ?_
   refine Ow.Go.old (fun o151 => ?_)
   refine Ow.callStatic (pc' := 92) (W := 0) (k' := 4) (n' := 20) (argsL := [(.int c134)]) (rest := []) B at_89 (w48 hw) (w49 hw) (w4 hw) (w50 hw) (con_tchar_19 hw G GS (px0 := c134) o151 ((Ow.cge0 hc134)) ((Ow.cle16 hc134)) (Ow.cnar hc134)) pd12 ?_
   intro vq152 h153 S154 q152 zh153
   rcases q152 with q152 | q152
   ·obtain ⟨rfl, rfl, c155, rfl⟩ := q152
    refine Ow.Go.nr (S' := []) (st' := [(.int 0)]) ?_
    refine Ow.ifF (pc' := 95) B at_92 (by decide) ?_
    refine Ow.iconst (pc' := 96) (x := 0) B at_95 ?_
    refine Ow.istore (pc' := 98) (Ls' := #[.val (.int x0), .val (.int x1), .val (.int x2), .val (.int x3), .val (.int x4), .val (.int 4), .val (.int c133), .val (.int c134), .val (.int c135), .val (.int c136), .val (.ref r141), .val (.int 0)]) B at_96 ?_
    refine Ow.iload (pc' := 100) B at_98 ?_
    refine Ow.iconst (pc' := 101) (x := 3) B at_100 ?_
    refine Ow.icmpF (pc' := 104) B at_101 (by decide) ?_
    refine Ow.iload (pc' := 106) B at_104 ?_
    refine Ow.Go.old (fun o156 => ?_)
    refine Ow.callStatic (pc' := 109) (W := 0) (k' := 4) (n' := 20) (argsL := [(.int c135)]) (rest := []) B at_106 (w48 hw) (w49 hw) (w4 hw) (w50 hw) (con_tchar_19 hw G GS (px0 := c135) o156 ((Ow.cge0 hc135)) ((Ow.cle16 hc135)) (Ow.cnar hc135)) pd12 ?_
    intro vq157 h158 S159 q157 zh158
    rcases q157 with q157 | q157
    ·obtain ⟨rfl, rfl, c160, rfl⟩ := q157
     refine Ow.Go.nr (S' := []) (st' := [(.int 0)]) ?_
     refine Ow.ifF (pc' := 112) B at_109 (by decide) ?_
     refine Ow.iconst (pc' := 113) (x := 0) B at_112 ?_
     refine Ow.istore (pc' := 115) (Ls' := #[.val (.int x0), .val (.int x1), .val (.int x2), .val (.int x3), .val (.int x4), .val (.int 4), .val (.int c133), .val (.int c134), .val (.int c135), .val (.int c136), .val (.ref r141), .val (.int 0)]) B at_113 ?_
     refine Ow.iload (pc' := 117) B at_115 ?_
     refine Ow.iconst (pc' := 118) (x := 4) B at_117 ?_
     refine Ow.icmpF (pc' := 121) B at_118 (by decide) ?_
     refine Ow.iload (pc' := 123) B at_121 ?_
     refine Ow.Go.old (fun o161 => ?_)
     refine Ow.callStatic (pc' := 126) (W := 0) (k' := 4) (n' := 20) (argsL := [(.int c136)]) (rest := []) B at_123 (w48 hw) (w49 hw) (w4 hw) (w50 hw) (con_tchar_19 hw G GS (px0 := c136) o161 ((Ow.cge0 hc136)) ((Ow.cle16 hc136)) (Ow.cnar hc136)) pd12 ?_
     intro vq162 h163 S164 q162 zh163
     rcases q162 with q162 | q162
     ·obtain ⟨rfl, rfl, c165, rfl⟩ := q162
      refine Ow.Go.nr (S' := []) (st' := [(.int 0)]) ?_
      refine Ow.ifF (pc' := 129) B at_126 (by decide) ?_
      refine Ow.iconst (pc' := 130) (x := 0) B at_129 ?_
      refine Ow.istore (pc' := 132) (Ls' := #[.val (.int x0), .val (.int x1), .val (.int x2), .val (.int x3), .val (.int x4), .val (.int 4), .val (.int c133), .val (.int c134), .val (.int c135), .val (.int c136), .val (.ref r141), .val (.int 0)]) B at_130 ?_
      refine Ow.Go.old (fun o166 => ?_)
      exact Ow.Go.mono (k' := 22) (n' := 2112) (by decide) (by decide) (by simp) (seg132_11 hw G GS (dl0 := x0) (dl1 := x1) (dl2 := x2) (dl3 := x3) (dl4 := x4) (dl5 := (4 : Int32)) (dl6 := c133) (dl7 := c134) (dl8 := c135) (dl9 := c136) (pa0 := r141) (pa1 := r142) (px0 := c133) (px1 := c134) (px2 := c135) (px3 := c136) (pk0 := k143) B  o166 f145 (by omega) (by omega) ((Ow.cge0 hc133)) ((Ow.cle16 hc133)) (c150) (Ow.cnar hc133) (Ow.cnar hc134) (Ow.cnar hc135) (Ow.cnar hc136))
     ·obtain ⟨rfl, rfl, c167, rfl⟩ := q162
      refine Ow.Go.nr (S' := []) (st' := [(.int 1)]) ?_
      refine Ow.ifT (pc' := 132) B at_126 (by decide) ?_
      refine Ow.Go.old (fun o168 => ?_)
      exact Ow.Go.mono (k' := 22) (n' := 2112) (by decide) (by decide) (by simp) (seg132_11 hw G GS (dl0 := x0) (dl1 := x1) (dl2 := x2) (dl3 := x3) (dl4 := x4) (dl5 := (4 : Int32)) (dl6 := c133) (dl7 := c134) (dl8 := c135) (dl9 := c136) (pa0 := r141) (pa1 := r142) (px0 := c133) (px1 := c134) (px2 := c135) (px3 := c136) (pk0 := k143) B  o168 f145 (by omega) (by omega) ((Ow.cge0 hc133)) ((Ow.cle16 hc133)) (c150) (Ow.cnar hc133) (Ow.cnar hc134) (Ow.cnar hc135) (Ow.cnar hc136))
    ·obtain ⟨rfl, rfl, c169, rfl⟩ := q157
     refine Ow.Go.nr (S' := []) (st' := [(.int 1)]) ?_
     refine Ow.ifT (pc' := 115) B at_109 (by decide) ?_
     refine Ow.iload (pc' := 117) B at_115 ?_
     refine Ow.iconst (pc' := 118) (x := 4) B at_117 ?_
     refine Ow.icmpF (pc' := 121) B at_118 (by decide) ?_
     refine Ow.iload (pc' := 123) B at_121 ?_
     refine Ow.Go.old (fun o170 => ?_)
     refine Ow.callStatic (pc' := 126) (W := 0) (k' := 4) (n' := 20) (argsL := [(.int c136)]) (rest := []) B at_123 (w48 hw) (w49 hw) (w4 hw) (w50 hw) (con_tchar_19 hw G GS (px0 := c136) o170 ((Ow.cge0 hc136)) ((Ow.cle16 hc136)) (Ow.cnar hc136)) pd12 ?_
     intro vq171 h172 S173 q171 zh172
     rcases q171 with q171 | q171
     ·obtain ⟨rfl, rfl, c174, rfl⟩ := q171
      refine Ow.Go.nr (S' := []) (st' := [(.int 0)]) ?_
      refine Ow.ifF (pc' := 129) B at_126 (by decide) ?_
      refine Ow.iconst (pc' := 130) (x := 0) B at_129 ?_
      refine Ow.istore (pc' := 132) (Ls' := #[.val (.int x0), .val (.int x1), .val (.int x2), .val (.int x3), .val (.int x4), .val (.int 4), .val (.int c133), .val (.int c134), .val (.int c135), .val (.int c136), .val (.ref r141), .val (.int 0)]) B at_130 ?_
      refine Ow.Go.old (fun o175 => ?_)
      exact Ow.Go.mono (k' := 22) (n' := 2112) (by decide) (by decide) (by simp) (seg132_11 hw G GS (dl0 := x0) (dl1 := x1) (dl2 := x2) (dl3 := x3) (dl4 := x4) (dl5 := (4 : Int32)) (dl6 := c133) (dl7 := c134) (dl8 := c135) (dl9 := c136) (pa0 := r141) (pa1 := r142) (px0 := c133) (px1 := c134) (px2 := c135) (px3 := c136) (pk0 := k143) B  o175 f145 (by omega) (by omega) ((Ow.cge0 hc133)) ((Ow.cle16 hc133)) (c150) (Ow.cnar hc133) (Ow.cnar hc134) (Ow.cnar hc135) (Ow.cnar hc136))
     ·obtain ⟨rfl, rfl, c176, rfl⟩ := q171
      refine Ow.Go.nr (S' := []) (st' := [(.int 1)]) ?_
      refine Ow.ifT (pc' := 132) B at_126 (by decide) ?_
      refine Ow.Go.old (fun o177 => ?_)
      exact Ow.Go.mono (k' := 22) (n' := 2112) (by decide) (by decide) (by simp) (seg132_11 hw G GS (dl0 := x0) (dl1 := x1) (dl2 := x2) (dl3 := x3) (dl4 := x4) (dl5 := (4 : Int32)) (dl6 := c133) (dl7 := c134) (dl8 := c135) (dl9 := c136) (pa0 := r141) (pa1 := r142) (px0 := c133) (px1 := c134) (px2 := c135) (px3 := c136) (pk0 := k143) B  o177 f145 (by omega) (by omega) ((Ow.cge0 hc133)) ((Ow.cle16 hc133)) (c150) (Ow.cnar hc133) (Ow.cnar hc134) (Ow.cnar hc135) (Ow.cnar hc136))
   ·obtain ⟨rfl, rfl, c178, rfl⟩ := q152
    refine Ow.Go.nr (S' := []) (st' := [(.int 1)]) ?_
    refine Ow.ifT (pc' := 98) B at_92 (by decide) ?_
    refine Ow.iload (pc' := 100) B at_98 ?_
    refine Ow.iconst (pc' := 101) (x := 3) B at_100 ?_
    refine Ow.icmpF (pc' := 104) B at_101 (by decide) ?_
    refine Ow.iload (pc' := 106) B at_104 ?_
    refine Ow.Go.old (fun o179 => ?_)
    refine Ow.callStatic (pc' := 109) (W := 0) (k' := 4) (n' := 20) (argsL := [(.int c135)]) (rest := []) B at_106 (w48 hw) (w49 hw) (w4 hw) (w50 hw) (con_tchar_19 hw G GS (px0 := c135) o179 ((Ow.cge0 hc135)) ((Ow.cle16 hc135)) (Ow.cnar hc135)) pd12 ?_
    intro vq180 h181 S182 q180 zh181
    rcases q180 with q180 | q180
    ·obtain ⟨rfl, rfl, c183, rfl⟩ := q180
     refine Ow.Go.nr (S' := []) (st' := [(.int 0)]) ?_
     refine Ow.ifF (pc' := 112) B at_109 (by decide) ?_
     refine Ow.iconst (pc' := 113) (x := 0) B at_112 ?_
     refine Ow.istore (pc' := 115) (Ls' := #[.val (.int x0), .val (.int x1), .val (.int x2), .val (.int x3), .val (.int x4), .val (.int 4), .val (.int c133), .val (.int c134), .val (.int c135), .val (.int c136), .val (.ref r141), .val (.int 0)]) B at_113 ?_
     refine Ow.iload (pc' := 117) B at_115 ?_
     refine Ow.iconst (pc' := 118) (x := 4) B at_117 ?_
     refine Ow.icmpF (pc' := 121) B at_118 (by decide) ?_
     refine Ow.iload (pc' := 123) B at_121 ?_
     refine Ow.Go.old (fun o184 => ?_)
     refine Ow.callStatic (pc' := 126) (W := 0) (k' := 4) (n' := 20) (argsL := [(.int c136)]) (rest := []) B at_123 (w48 hw) (w49 hw) (w4 hw) (w50 hw) (con_tchar_19 hw G GS (px0 := c136) o184 ((Ow.cge0 hc136)) ((Ow.cle16 hc136)) (Ow.cnar hc136)) pd12 ?_
     intro vq185 h186 S187 q185 zh186
     rcases q185 with q185 | q185
     ·obtain ⟨rfl, rfl, c188, rfl⟩ := q185
      refine Ow.Go.nr (S' := []) (st' := [(.int 0)]) ?_
      refine Ow.ifF (pc' := 129) B at_126 (by decide) ?_
      refine Ow.iconst (pc' := 130) (x := 0) B at_129 ?_
      refine Ow.istore (pc' := 132) (Ls' := #[.val (.int x0), .val (.int x1), .val (.int x2), .val (.int x3), .val (.int x4), .val (.int 4), .val (.int c133), .val (.int c134), .val (.int c135), .val (.int c136), .val (.ref r141), .val (.int 0)]) B at_130 ?_
      refine Ow.Go.old (fun o189 => ?_)
      exact Ow.Go.mono (k' := 22) (n' := 2112) (by decide) (by decide) (by simp) (seg132_11 hw G GS (dl0 := x0) (dl1 := x1) (dl2 := x2) (dl3 := x3) (dl4 := x4) (dl5 := (4 : Int32)) (dl6 := c133) (dl7 := c134) (dl8 := c135) (dl9 := c136) (pa0 := r141) (pa1 := r142) (px0 := c133) (px1 := c134) (px2 := c135) (px3 := c136) (pk0 := k143) B  o189 f145 (by omega) (by omega) ((Ow.cge0 hc133)) ((Ow.cle16 hc133)) (c150) (Ow.cnar hc133) (Ow.cnar hc134) (Ow.cnar hc135) (Ow.cnar hc136))
     ·obtain ⟨rfl, rfl, c190, rfl⟩ := q185
      refine Ow.Go.nr (S' := []) (st' := [(.int 1)]) ?_
      refine Ow.ifT (pc' := 132) B at_126 (by decide) ?_
      refine Ow.Go.old (fun o191 => ?_)
      exact Ow.Go.mono (k' := 22) (n' := 2112) (by decide) (by decide) (by simp) (seg132_11 hw G GS (dl0 := x0) (dl1 := x1) (dl2 := x2) (dl3 := x3) (dl4 := x4) (dl5 := (4 : Int32)) (dl6 := c133) (dl7 := c134) (dl8 := c135) (dl9 := c136) (pa0 := r141) (pa1 := r142) (px0 := c133) (px1 := c134) (px2 := c135) (px3 := c136) (pk0 := k143) B  o191 f145 (by omega) (by omega) ((Ow.cge0 hc133)) ((Ow.cle16 hc133)) (c150) (Ow.cnar hc133) (Ow.cnar hc134) (Ow.cnar hc135) (Ow.cnar hc136))
    ·obtain ⟨rfl, rfl, c192, rfl⟩ := q180
     refine Ow.Go.nr (S' := []) (st' := [(.int 1)]) ?_
     refine Ow.ifT (pc' := 115) B at_109 (by decide) ?_
     refine Ow.iload (pc' := 117) B at_115 ?_
     refine Ow.iconst (pc' := 118) (x := 4) B at_117 ?_
     refine Ow.icmpF (pc' := 121) B at_118 (by decide) ?_
     refine Ow.iload (pc' := 123) B at_121 ?_
     refine Ow.Go.old (fun o193 => ?_)
     refine Ow.callStatic (pc' := 126) (W := 0) (k' := 4) (n' := 20) (argsL := [(.int c136)]) (rest := []) B at_123 (w48 hw) (w49 hw) (w4 hw) (w50 hw) (con_tchar_19 hw G GS (px0 := c136) o193 ((Ow.cge0 hc136)) ((Ow.cle16 hc136)) (Ow.cnar hc136)) pd12 ?_
     intro vq194 h195 S196 q194 zh195
     rcases q194 with q194 | q194
     ·obtain ⟨rfl, rfl, c197, rfl⟩ := q194
      refine Ow.Go.nr (S' := []) (st' := [(.int 0)]) ?_
      refine Ow.ifF (pc' := 129) B at_126 (by decide) ?_
      refine Ow.iconst (pc' := 130) (x := 0) B at_129 ?_
      refine Ow.istore (pc' := 132) (Ls' := #[.val (.int x0), .val (.int x1), .val (.int x2), .val (.int x3), .val (.int x4), .val (.int 4), .val (.int c133), .val (.int c134), .val (.int c135), .val (.int c136), .val (.ref r141), .val (.int 0)]) B at_130 ?_
      refine Ow.Go.old (fun o198 => ?_)
      exact Ow.Go.mono (k' := 22) (n' := 2112) (by decide) (by decide) (by simp) (seg132_11 hw G GS (dl0 := x0) (dl1 := x1) (dl2 := x2) (dl3 := x3) (dl4 := x4) (dl5 := (4 : Int32)) (dl6 := c133) (dl7 := c134) (dl8 := c135) (dl9 := c136) (pa0 := r141) (pa1 := r142) (px0 := c133) (px1 := c134) (px2 := c135) (px3 := c136) (pk0 := k143) B  o198 f145 (by omega) (by omega) ((Ow.cge0 hc133)) ((Ow.cle16 hc133)) (c150) (Ow.cnar hc133) (Ow.cnar hc134) (Ow.cnar hc135) (Ow.cnar hc136))
     ·obtain ⟨rfl, rfl, c199, rfl⟩ := q194
      refine Ow.Go.nr (S' := []) (st' := [(.int 1)]) ?_
      refine Ow.ifT (pc' := 132) B at_126 (by decide) ?_
      refine Ow.Go.old (fun o200 => ?_)
      exact Ow.Go.mono (k' := 22) (n' := 2112) (by decide) (by decide) (by simp) (seg132_11 hw G GS (dl0 := x0) (dl1 := x1) (dl2 := x2) (dl3 := x3) (dl4 := x4) (dl5 := (4 : Int32)) (dl6 := c133) (dl7 := c134) (dl8 := c135) (dl9 := c136) (pa0 := r141) (pa1 := r142) (px0 := c133) (px1 := c134) (px2 := c135) (px3 := c136) (pk0 := k143) B  o200 f145 (by omega) (by omega) ((Ow.cge0 hc133)) ((Ow.cle16 hc133)) (c150) (Ow.cnar hc133) (Ow.cnar hc134) (Ow.cnar hc135) (Ow.cnar hc136))
  ·obtain ⟨rfl, rfl, c201, rfl⟩ := q147
   refine Ow.Go.nr (S' := []) (st' := [(.int 1)]) ?_
   refine Ow.ifT (pc' := 81) B at_75 (by decide) ?_
   refine Ow.iload (pc' := 83) B at_81 ?_
   refine Ow.iconst (pc' := 84) (x := 2) B at_83 ?_
   refine Ow.icmpF (pc' := 87) B at_84 (by decide) ?_
   refine Ow.iload (pc' := 89) B at_87 ?_
   refine Ow.Go.old (fun o202 => ?_)
   refine Ow.callStatic (pc' := 92) (W := 0) (k' := 4) (n' := 20) (argsL := [(.int c134)]) (rest := []) B at_89 (w48 hw) (w49 hw) (w4 hw) (w50 hw) (con_tchar_19 hw G GS (px0 := c134) o202 ((Ow.cge0 hc134)) ((Ow.cle16 hc134)) (Ow.cnar hc134)) pd12 ?_
   intro vq203 h204 S205 q203 zh204
   rcases q203 with q203 | q203
   ·obtain ⟨rfl, rfl, c206, rfl⟩ := q203
    refine Ow.Go.nr (S' := []) (st' := [(.int 0)]) ?_
    refine Ow.ifF (pc' := 95) B at_92 (by decide) ?_
    refine Ow.iconst (pc' := 96) (x := 0) B at_95 ?_
    refine Ow.istore (pc' := 98) (Ls' := #[.val (.int x0), .val (.int x1), .val (.int x2), .val (.int x3), .val (.int x4), .val (.int 4), .val (.int c133), .val (.int c134), .val (.int c135), .val (.int c136), .val (.ref r141), .val (.int 0)]) B at_96 ?_
    refine Ow.iload (pc' := 100) B at_98 ?_
    refine Ow.iconst (pc' := 101) (x := 3) B at_100 ?_
    refine Ow.icmpF (pc' := 104) B at_101 (by decide) ?_
    refine Ow.iload (pc' := 106) B at_104 ?_
    refine Ow.Go.old (fun o207 => ?_)
    refine Ow.callStatic (pc' := 109) (W := 0) (k' := 4) (n' := 20) (argsL := [(.int c135)]) (rest := []) B at_106 (w48 hw) (w49 hw) (w4 hw) (w50 hw) (con_tchar_19 hw G GS (px0 := c135) o207 ((Ow.cge0 hc135)) ((Ow.cle16 hc135)) (Ow.cnar hc135)) pd12 ?_
    intro vq208 h209 S210 q208 zh209
    rcases q208 with q208 | q208
    ·obtain ⟨rfl, rfl, c211, rfl⟩ := q208
     refine Ow.Go.nr (S' := []) (st' := [(.int 0)]) ?_
     refine Ow.ifF (pc' := 112) B at_109 (by decide) ?_
     refine Ow.iconst (pc' := 113) (x := 0) B at_112 ?_
     refine Ow.istore (pc' := 115) (Ls' := #[.val (.int x0), .val (.int x1), .val (.int x2), .val (.int x3), .val (.int x4), .val (.int 4), .val (.int c133), .val (.int c134), .val (.int c135), .val (.int c136), .val (.ref r141), .val (.int 0)]) B at_113 ?_
     refine Ow.iload (pc' := 117) B at_115 ?_
     refine Ow.iconst (pc' := 118) (x := 4) B at_117 ?_
     refine Ow.icmpF (pc' := 121) B at_118 (by decide) ?_
     refine Ow.iload (pc' := 123) B at_121 ?_
     refine Ow.Go.old (fun o212 => ?_)
     refine Ow.callStatic (pc' := 126) (W := 0) (k' := 4) (n' := 20) (argsL := [(.int c136)]) (rest := []) B at_123 (w48 hw) (w49 hw) (w4 hw) (w50 hw) (con_tchar_19 hw G GS (px0 := c136) o212 ((Ow.cge0 hc136)) ((Ow.cle16 hc136)) (Ow.cnar hc136)) pd12 ?_
     intro vq213 h214 S215 q213 zh214
     rcases q213 with q213 | q213
     ·obtain ⟨rfl, rfl, c216, rfl⟩ := q213
      refine Ow.Go.nr (S' := []) (st' := [(.int 0)]) ?_
      refine Ow.ifF (pc' := 129) B at_126 (by decide) ?_
      refine Ow.iconst (pc' := 130) (x := 0) B at_129 ?_
      refine Ow.istore (pc' := 132) (Ls' := #[.val (.int x0), .val (.int x1), .val (.int x2), .val (.int x3), .val (.int x4), .val (.int 4), .val (.int c133), .val (.int c134), .val (.int c135), .val (.int c136), .val (.ref r141), .val (.int 0)]) B at_130 ?_
      refine Ow.Go.old (fun o217 => ?_)
      exact Ow.Go.mono (k' := 20) (n' := 2048) (by decide) (by decide) (by simp) (seg132_12 hw G GS (dl0 := x0) (dl1 := x1) (dl2 := x2) (dl3 := x3) (dl4 := x4) (dl5 := (4 : Int32)) (dl6 := c133) (dl7 := c134) (dl8 := c135) (dl9 := c136) (pa0 := r141) (pa1 := r142) (px0 := c133) (px1 := c134) (px2 := c135) (px3 := c136) (pk0 := k143) B  o217 f145 (by omega) (by omega) ((Ow.cge0 hc133)) ((Ow.cle16 hc133)) ((Ow.cge0 hc134)) ((Ow.cle16 hc134)) (c201) (c206) (Ow.cnar hc133) (Ow.cnar hc134) (Ow.cnar hc135) (Ow.cnar hc136))
     ·obtain ⟨rfl, rfl, c218, rfl⟩ := q213
      refine Ow.Go.nr (S' := []) (st' := [(.int 1)]) ?_
      refine Ow.ifT (pc' := 132) B at_126 (by decide) ?_
      refine Ow.Go.old (fun o219 => ?_)
      exact Ow.Go.mono (k' := 20) (n' := 2048) (by decide) (by decide) (by simp) (seg132_12 hw G GS (dl0 := x0) (dl1 := x1) (dl2 := x2) (dl3 := x3) (dl4 := x4) (dl5 := (4 : Int32)) (dl6 := c133) (dl7 := c134) (dl8 := c135) (dl9 := c136) (pa0 := r141) (pa1 := r142) (px0 := c133) (px1 := c134) (px2 := c135) (px3 := c136) (pk0 := k143) B  o219 f145 (by omega) (by omega) ((Ow.cge0 hc133)) ((Ow.cle16 hc133)) ((Ow.cge0 hc134)) ((Ow.cle16 hc134)) (c201) (c206) (Ow.cnar hc133) (Ow.cnar hc134) (Ow.cnar hc135) (Ow.cnar hc136))
    ·obtain ⟨rfl, rfl, c220, rfl⟩ := q208
     refine Ow.Go.nr (S' := []) (st' := [(.int 1)]) ?_
     refine Ow.ifT (pc' := 115) B at_109 (by decide) ?_
     refine Ow.iload (pc' := 117) B at_115 ?_
     refine Ow.iconst (pc' := 118) (x := 4) B at_117 ?_
     refine Ow.icmpF (pc' := 121) B at_118 (by decide) ?_
     refine Ow.iload (pc' := 123) B at_121 ?_
     refine Ow.Go.old (fun o221 => ?_)
     refine Ow.callStatic (pc' := 126) (W := 0) (k' := 4) (n' := 20) (argsL := [(.int c136)]) (rest := []) B at_123 (w48 hw) (w49 hw) (w4 hw) (w50 hw) (con_tchar_19 hw G GS (px0 := c136) o221 ((Ow.cge0 hc136)) ((Ow.cle16 hc136)) (Ow.cnar hc136)) pd12 ?_
     intro vq222 h223 S224 q222 zh223
     rcases q222 with q222 | q222
     ·obtain ⟨rfl, rfl, c225, rfl⟩ := q222
      refine Ow.Go.nr (S' := []) (st' := [(.int 0)]) ?_
      refine Ow.ifF (pc' := 129) B at_126 (by decide) ?_
      refine Ow.iconst (pc' := 130) (x := 0) B at_129 ?_
      refine Ow.istore (pc' := 132) (Ls' := #[.val (.int x0), .val (.int x1), .val (.int x2), .val (.int x3), .val (.int x4), .val (.int 4), .val (.int c133), .val (.int c134), .val (.int c135), .val (.int c136), .val (.ref r141), .val (.int 0)]) B at_130 ?_
      refine Ow.Go.old (fun o226 => ?_)
      exact Ow.Go.mono (k' := 20) (n' := 2048) (by decide) (by decide) (by simp) (seg132_12 hw G GS (dl0 := x0) (dl1 := x1) (dl2 := x2) (dl3 := x3) (dl4 := x4) (dl5 := (4 : Int32)) (dl6 := c133) (dl7 := c134) (dl8 := c135) (dl9 := c136) (pa0 := r141) (pa1 := r142) (px0 := c133) (px1 := c134) (px2 := c135) (px3 := c136) (pk0 := k143) B  o226 f145 (by omega) (by omega) ((Ow.cge0 hc133)) ((Ow.cle16 hc133)) ((Ow.cge0 hc134)) ((Ow.cle16 hc134)) (c201) (c206) (Ow.cnar hc133) (Ow.cnar hc134) (Ow.cnar hc135) (Ow.cnar hc136))
     ·obtain ⟨rfl, rfl, c227, rfl⟩ := q222
      refine Ow.Go.nr (S' := []) (st' := [(.int 1)]) ?_
      refine Ow.ifT (pc' := 132) B at_126 (by decide) ?_
      refine Ow.Go.old (fun o228 => ?_)
      exact Ow.Go.mono (k' := 20) (n' := 2048) (by decide) (by decide) (by simp) (seg132_12 hw G GS (dl0 := x0) (dl1 := x1) (dl2 := x2) (dl3 := x3) (dl4 := x4) (dl5 := (4 : Int32)) (dl6 := c133) (dl7 := c134) (dl8 := c135) (dl9 := c136) (pa0 := r141) (pa1 := r142) (px0 := c133) (px1 := c134) (px2 := c135) (px3 := c136) (pk0 := k143) B  o228 f145 (by omega) (by omega) ((Ow.cge0 hc133)) ((Ow.cle16 hc133)) ((Ow.cge0 hc134)) ((Ow.cle16 hc134)) (c201) (c206) (Ow.cnar hc133) (Ow.cnar hc134) (Ow.cnar hc135) (Ow.cnar hc136))
   ·obtain ⟨rfl, rfl, c229, rfl⟩ := q203
    refine Ow.Go.nr (S' := []) (st' := [(.int 1)]) ?_
    refine Ow.ifT (pc' := 98) B at_92 (by decide) ?_
    refine Ow.iload (pc' := 100) B at_98 ?_
    refine Ow.iconst (pc' := 101) (x := 3) B at_100 ?_
    refine Ow.icmpF (pc' := 104) B at_101 (by decide) ?_
    refine Ow.iload (pc' := 106) B at_104 ?_
    refine Ow.Go.old (fun o230 => ?_)
    refine Ow.callStatic (pc' := 109) (W := 0) (k' := 4) (n' := 20) (argsL := [(.int c135)]) (rest := []) B at_106 (w48 hw) (w49 hw) (w4 hw) (w50 hw) (con_tchar_19 hw G GS (px0 := c135) o230 ((Ow.cge0 hc135)) ((Ow.cle16 hc135)) (Ow.cnar hc135)) pd12 ?_
    intro vq231 h232 S233 q231 zh232
    rcases q231 with q231 | q231
    ·obtain ⟨rfl, rfl, c234, rfl⟩ := q231
     refine Ow.Go.nr (S' := []) (st' := [(.int 0)]) ?_
     refine Ow.ifF (pc' := 112) B at_109 (by decide) ?_
     refine Ow.iconst (pc' := 113) (x := 0) B at_112 ?_
     refine Ow.istore (pc' := 115) (Ls' := #[.val (.int x0), .val (.int x1), .val (.int x2), .val (.int x3), .val (.int x4), .val (.int 4), .val (.int c133), .val (.int c134), .val (.int c135), .val (.int c136), .val (.ref r141), .val (.int 0)]) B at_113 ?_
     refine Ow.iload (pc' := 117) B at_115 ?_
     refine Ow.iconst (pc' := 118) (x := 4) B at_117 ?_
     refine Ow.icmpF (pc' := 121) B at_118 (by decide) ?_
     refine Ow.iload (pc' := 123) B at_121 ?_
     refine Ow.Go.old (fun o235 => ?_)
     refine Ow.callStatic (pc' := 126) (W := 0) (k' := 4) (n' := 20) (argsL := [(.int c136)]) (rest := []) B at_123 (w48 hw) (w49 hw) (w4 hw) (w50 hw) (con_tchar_19 hw G GS (px0 := c136) o235 ((Ow.cge0 hc136)) ((Ow.cle16 hc136)) (Ow.cnar hc136)) pd12 ?_
     intro vq236 h237 S238 q236 zh237
     rcases q236 with q236 | q236
     ·obtain ⟨rfl, rfl, c239, rfl⟩ := q236
      refine Ow.Go.nr (S' := []) (st' := [(.int 0)]) ?_
      refine Ow.ifF (pc' := 129) B at_126 (by decide) ?_
      refine Ow.iconst (pc' := 130) (x := 0) B at_129 ?_
      refine Ow.istore (pc' := 132) (Ls' := #[.val (.int x0), .val (.int x1), .val (.int x2), .val (.int x3), .val (.int x4), .val (.int 4), .val (.int c133), .val (.int c134), .val (.int c135), .val (.int c136), .val (.ref r141), .val (.int 0)]) B at_130 ?_
      refine Ow.Go.old (fun o240 => ?_)
      exact Ow.Go.mono (k' := 18) (n' := 1984) (by decide) (by decide) (by simp) (seg132_13 hw G GS (dl0 := x0) (dl1 := x1) (dl2 := x2) (dl3 := x3) (dl4 := x4) (dl5 := (4 : Int32)) (dl6 := c133) (dl7 := c134) (dl8 := c135) (dl9 := c136) (pa0 := r141) (pa1 := r142) (px0 := c133) (px1 := c134) (px2 := c135) (px3 := c136) (pk0 := k143) B  o240 f145 (by omega) (by omega) ((Ow.cge0 hc133)) ((Ow.cle16 hc133)) ((Ow.cge0 hc134)) ((Ow.cle16 hc134)) ((Ow.cge0 hc135)) ((Ow.cle16 hc135)) (c201) (c229) (c234) (Ow.cnar hc133) (Ow.cnar hc134) (Ow.cnar hc135) (Ow.cnar hc136))
     ·obtain ⟨rfl, rfl, c241, rfl⟩ := q236
      refine Ow.Go.nr (S' := []) (st' := [(.int 1)]) ?_
      refine Ow.ifT (pc' := 132) B at_126 (by decide) ?_
      refine Ow.Go.old (fun o242 => ?_)
      exact Ow.Go.mono (k' := 18) (n' := 1984) (by decide) (by decide) (by simp) (seg132_13 hw G GS (dl0 := x0) (dl1 := x1) (dl2 := x2) (dl3 := x3) (dl4 := x4) (dl5 := (4 : Int32)) (dl6 := c133) (dl7 := c134) (dl8 := c135) (dl9 := c136) (pa0 := r141) (pa1 := r142) (px0 := c133) (px1 := c134) (px2 := c135) (px3 := c136) (pk0 := k143) B  o242 f145 (by omega) (by omega) ((Ow.cge0 hc133)) ((Ow.cle16 hc133)) ((Ow.cge0 hc134)) ((Ow.cle16 hc134)) ((Ow.cge0 hc135)) ((Ow.cle16 hc135)) (c201) (c229) (c234) (Ow.cnar hc133) (Ow.cnar hc134) (Ow.cnar hc135) (Ow.cnar hc136))
    ·obtain ⟨rfl, rfl, c243, rfl⟩ := q231
     refine Ow.Go.nr (S' := []) (st' := [(.int 1)]) ?_
     refine Ow.ifT (pc' := 115) B at_109 (by decide) ?_
     refine Ow.iload (pc' := 117) B at_115 ?_
     refine Ow.iconst (pc' := 118) (x := 4) B at_117 ?_
     refine Ow.icmpF (pc' := 121) B at_118 (by decide) ?_
     refine Ow.iload (pc' := 123) B at_121 ?_
     refine Ow.Go.old (fun o244 => ?_)
     refine Ow.callStatic (pc' := 126) (W := 0) (k' := 4) (n' := 20) (argsL := [(.int c136)]) (rest := []) B at_123 (w48 hw) (w49 hw) (w4 hw) (w50 hw) (con_tchar_19 hw G GS (px0 := c136) o244 ((Ow.cge0 hc136)) ((Ow.cle16 hc136)) (Ow.cnar hc136)) pd12 ?_
     intro vq245 h246 S247 q245 zh246
     rcases q245 with q245 | q245
     ·obtain ⟨rfl, rfl, c248, rfl⟩ := q245
      refine Ow.Go.nr (S' := []) (st' := [(.int 0)]) ?_
      refine Ow.ifF (pc' := 129) B at_126 (by decide) ?_
      refine Ow.iconst (pc' := 130) (x := 0) B at_129 ?_
      refine Ow.istore (pc' := 132) (Ls' := #[.val (.int x0), .val (.int x1), .val (.int x2), .val (.int x3), .val (.int x4), .val (.int 4), .val (.int c133), .val (.int c134), .val (.int c135), .val (.int c136), .val (.ref r141), .val (.int 0)]) B at_130 ?_
      refine Ow.Go.old (fun o249 => ?_)
      exact Ow.Go.mono (k' := 16) (n' := 1920) (by decide) (by decide) (by simp) (seg132_14 hw G GS (dl0 := x0) (dl1 := x1) (dl2 := x2) (dl3 := x3) (dl4 := x4) (dl5 := (4 : Int32)) (dl6 := c133) (dl7 := c134) (dl8 := c135) (dl9 := c136) (pa0 := r141) (pa1 := r142) (px0 := c133) (px1 := c134) (px2 := c135) (px3 := c136) (pk0 := k143) B  o249 f145 (by omega) (by omega) ((Ow.cge0 hc133)) ((Ow.cle16 hc133)) ((Ow.cge0 hc134)) ((Ow.cle16 hc134)) ((Ow.cge0 hc135)) ((Ow.cle16 hc135)) ((Ow.cge0 hc136)) ((Ow.cle16 hc136)) (c201) (c229) (c243) (c248) (Ow.cnar hc133) (Ow.cnar hc134) (Ow.cnar hc135) (Ow.cnar hc136))
     ·obtain ⟨rfl, rfl, c250, rfl⟩ := q245
      refine Ow.Go.nr (S' := []) (st' := [(.int 1)]) ?_
      refine Ow.ifT (pc' := 132) B at_126 (by decide) ?_
      refine Ow.Go.old (fun o251 => ?_)
      exact Ow.Go.mono (k' := 16) (n' := 1920) (by decide) (by decide) (by simp) (seg132_15 hw G GS (dl0 := x0) (dl1 := x1) (dl2 := x2) (dl3 := x3) (dl4 := x4) (dl5 := (4 : Int32)) (dl6 := c133) (dl7 := c134) (dl8 := c135) (dl9 := c136) (pa0 := r141) (pa1 := r142) (px0 := c133) (px1 := c134) (px2 := c135) (px3 := c136) (pk0 := k143) B  o251 f145 (by omega) (by omega) ((Ow.cge0 hc133)) ((Ow.cle16 hc133)) ((Ow.cge0 hc134)) ((Ow.cle16 hc134)) ((Ow.cge0 hc135)) ((Ow.cle16 hc135)) ((Ow.cge0 hc136)) ((Ow.cle16 hc136)) (c201) (c229) (c243) (c250) (Ow.cnar hc133) (Ow.cnar hc134) (Ow.cnar hc135) (Ow.cnar hc136))
set_option maxRecDepth 65536 in
set_option maxHeartbeats 40000000 in
theorem comes_1 {Post : Tables → Env → Array Value → State → Outcome → State → Prop} (hpost : ∀ tb e args s v u, (limb_1_1.after args s (.returned v) u = true ∧ limb_1_2.after args s (.returned v) u = true ∧ True) → ReturnedEndW s (.returned v) u (Jvm.fieldLocs frame_1_writes args s ++ Jvm.arrayLocs frame_1_arrays args s ++ Jvm.staticLocs frame_1_statics s) 24 2176 → Post tb e args s (.returned v) u) :
    ArmFor flags0 classFile x code maxLocals ret World_1 tables_1 room_1 Calls_1 rest_1 Pre_1 Post := by
  intro l hfl _ _ p e ha hc hk s m args below hf hA hF happ hP
  obtain ⟨hcalls, hrest, hpre⟩ := hP
  obtain ⟨-, -, -, hnamed, -, -, -, hat⟩ := (Spec.applies_iff hf).mp happ
  obtain ⟨hg, hn⟩ := and_e (Cond.before_iff.mp (show (Jvm.Cond.and given_1 narrow_1).before args s = true from hpre))
  obtain ⟨g0, hg⟩ := and_e hg
  obtain ⟨w0, w1, w2, w3, w4, rfl⟩ : ∃ w0 w1 w2 w3 w4 : Value, args = #[w0, w1, w2, w3, w4] := by
    have hs : args.size = 5 := by simpa [Cond.value, given_1] using g0
    obtain ⟨L⟩ := args
    match L, hs with
    | [w0, w1, w2, w3, w4], _ => exact ⟨w0, w1, w2, w3, w4, rfl⟩
  have hw := fun d (hd : d ∈ tables_1) => atoms_spec (ws := Jvm.Cond.code x code maxLocals ret :: tables_1) hat d (List.mem_cons_of_mem _ hd)
  have hsets := (atoms_of jdkStatics_1 (by rw [← rest_1_c_eq]; exact hrest)).1
  obtain ⟨g1, hg⟩ := and_e hg
  obtain ⟨i0, e0⟩ := is_v g1
  obtain rfl : w0 = (.int i0) := Option.some.inj e0
  obtain ⟨g2, hg⟩ := and_e hg
  obtain ⟨i1, e1⟩ := is_v g2
  obtain rfl : w1 = (.int i1) := Option.some.inj e1
  obtain ⟨g3, hg⟩ := and_e hg
  obtain ⟨i2, e2⟩ := is_v g3
  obtain rfl : w2 = (.int i2) := Option.some.inj e2
  obtain ⟨g4, hg⟩ := and_e hg
  obtain ⟨i3, e3⟩ := is_v g4
  obtain rfl : w3 = (.int i3) := Option.some.inj e3
  have g5 := hg
  obtain ⟨i4, e4⟩ := is_v g5
  obtain rfl : w4 = (.int i4) := Option.some.inj e4
  obtain ⟨cz, ecz⟩ := is_v (Cond.before_iff.mp (hsets _ (List.mem_of_getElem? (i := 1) rfl)))
  have hcz : cz ≠ 0 := gotF (Cond.eq_ints ecz (Term.int_eval (0))) (not_v (Cond.before_iff.mp (hsets _ (List.mem_of_getElem? (i := 2) rfl))))
  obtain ⟨sf, esf, rsf⟩ := isR_v (Cond.before_iff.mp (hsets _ (List.mem_of_getElem? (i := 8) rfl)))
  have G : Ow.Glo s cz sf := ⟨Sta.start ecz (Or.inl (hsets _ (List.mem_of_getElem? (i := 0) rfl))), hcz, Sta.start esf (Or.inl (hsets _ (List.mem_of_getElem? (i := 7) rfl))), rsf⟩
  have hCH : CHv s EL1 s.vm s.heap := CHv.start (hEW hw) (fun q hq => hcalls.1 q (by simp only [List.mem_cons, List.not_mem_nil, or_false] at hq; rcases hq with rfl | rfl <;> simp [consts_1])) (hsets _ (List.mem_of_getElem? (i := 2) rfl)) (w21 hw) (w7 hw)
  have GS : GlS s  := ⟨Sta.start (Ow.eq_int_v (Cond.before_iff.mp (hsets _ (List.mem_of_getElem? (i := 12) rfl)))) (Or.inl (hsets _ (List.mem_of_getElem? (i := 11) rfl))), Sta.start (Ow.eq_int_v (Cond.before_iff.mp (hsets _ (List.mem_of_getElem? (i := 15) rfl)))) (Or.inl (hsets _ (List.mem_of_getElem? (i := 14) rfl))), Sta.start (Ow.eq_int_v (Cond.before_iff.mp (hsets _ (List.mem_of_getElem? (i := 18) rfl)))) (Or.inl (hsets _ (List.mem_of_getElem? (i := 17) rfl)))⟩
  obtain ⟨n, o, h1, h2, h3, v, L, S', rfl, ⟨rfl, N, -, -⟩, -, hq⟩ := lawCon hw G GS i0 i1 i2 i3 i4 (Old.start s) p e ha hc hk s m _ below hf ((Spec.applies_iff_loose hf).mp happ).1 ⟨rfl, State.Warmed39.refl s, rfl, hCH, Ow.SafeL.nil⟩ trivial
  refine ⟨n, _, h1, h2, h3, hpost _ _ _ _ _ _ ⟨Cond.after_iff.mpr rfl, Cond.after_iff.mpr (eq_i res_at (Term.int_eval (1)) rfl), trivial⟩ ⟨hq.1, hq.2.1, hq.2.2.1, (hq.2.2.2.sift fun y hy => Or.inr (N y hy)).mono (by decide) (by decide)⟩⟩
theorem main_1_1 : Claimed_1_1 := comes_1 fun _ _ _ _ _ _ h hF => ⟨h.1, hF⟩
theorem main_1_2 : Claimed_1_2 := comes_1 fun _ _ _ _ _ _ h hF => ⟨h.2.1, hF⟩
end Jvm.Pilot.@@N@@
namespace Jvm.Pilot.@@N@@
open Jvm Jvm.ClassFile Sem Op Lib Jvm.Free Jvm.Stand Jvm.Pilot.@@N@@.Jvm.D
/-! MADE BY PROGRAM (witnessworld.py) out of the Statement's table words and the real class files: 22 classes; the members and pool entries that the words name. The judged class is class 1, her method 4. -/
namespace start1
open Jvm.ClassFile
def u (s : String) : CpInfo := .utf8 (stringToUtf16 s)
/-- a pool by its gaps: so many unusable entries, then the entry; so many at the end -/
def gap : Nat → List CpInfo → List CpInfo
  | 0, r => r
  | n + 1, r => .unusable :: gap n r
def poolList (es : List (Nat × CpInfo)) (last : Nat) : List CpInfo := es.foldr (fun e r => gap e.1 (e.2 :: r)) (gap last [])
def pool (es : List (Nat × CpInfo)) (last : Nat) : Array CpInfo := ⟨poolList es last⟩
def fileOf (pool : Array CpInfo) (this : Nat) (attrs : Array Attribute := #[]) (ms : Array MethodInfo := #[]) (fl : Nat := 33) (sup : Nat := 0) (ifs : Array Nat := #[]) (fds : Array FieldInfo := #[]) : ClassFile where
  minorVersion := 0
  majorVersion := 65
  constantPool := pool
  accessFlags := fl
  thisClass := this
  superClass := sup
  interfaces := ifs
  fields := fds
  methods := ms
  attributes := attrs
def plain (name : String) (sup : Option ClassId) : Class where
  name := name
  kind := .ordinary
  loader := none
  accessFlags := 33
  super := sup
  interfaces := #[]
  cf := none
  fields := #[]
  methods := #[]
  instanceTypes := #[]
  staticTypes := #[]
  resolved := #[]
  callSites := []
  init := .initialized
  statics := none
  mirror := none

def pool0 : Array CpInfo := pool [(5, u "<init>"), (0, u "()V"), (1, .class_ 10), (1, u "java/lang/Object")] 113

def k0c0 : Code := { maxStack := 0, maxLocals := 1, code := object_method_1_code, exceptionTable := #[], attributes := #[] }
def k0m0 : Method := { name := "<init>", desc := "()V", sig := { parameters := [], returnType := none }, accessFlags := 1, code := some k0c0 }
/-- java/lang/Object -/
def k0 : Class := { plain "java/lang/Object" none with
  accessFlags := 33
  interfaces := #[]
  cf := some (fileOf pool0 8 #[] #[{ accessFlags := 1, nameIndex := 5, descriptorIndex := 6, attributes := #[] }] 33 0 #[] #[])
  fields := #[]
  methods := #[k0m0]
  instanceTypes := #[]
  staticTypes := #[]
  resolved := Array.replicate 124 none
  statics := none }

def pool1 : Array CpInfo := pool [(2, .class_ 4), (1, u "java/lang/Object"), (0, u "<init>"), (0, u "()V"), (0, .methodref 8 9), (0, .class_ 10), (0, .nameAndType 11 12), (0, u "com/example/countersign/countersign/request/HeaderIsTokenPinLaw"), (0, u "delimiter"), (0, u "(I)Z"), (0, .class_ 14), (0, u "java/lang/String"), (0, .methodref 13 16), (0, .nameAndType 5 17), (0, u "([C)V"), (0, .integer 2147483647), (0, .integer 65535), (0, .methodref 8 21), (0, .nameAndType 22 23), (0, u "make"), (0, u "(ICCCC)Ljava/lang/String;"), (0, .methodref 8 25), (0, .nameAndType 26 12), (0, u "tchar"), (0, .methodref 28 29), (0, .class_ 30), (0, .nameAndType 31 32), (0, u "com/example/countersign/countersign/request/Header"), (0, u "isToken"), (0, u "(Ljava/lang/String;)Z"), (3, u "law"), (0, u "(IIIII)Z")] 2

def k1m0 : Method := { name := "<init>", desc := "()V", sig := { parameters := [], returnType := none }, accessFlags := 1, code := none }
def k1c1 : Code := { maxStack := 2, maxLocals := 1, code := method_2_code, exceptionTable := #[], attributes := #[] }
def k1m1 : Method := { name := "delimiter", desc := "(I)Z", sig := { parameters := [.int], returnType := some .boolean }, accessFlags := 10, code := some k1c1 }
def k1c2 : Code := { maxStack := 2, maxLocals := 1, code := method_3_code, exceptionTable := #[], attributes := #[] }
def k1m2 : Method := { name := "tchar", desc := "(I)Z", sig := { parameters := [.int], returnType := some .boolean }, accessFlags := 10, code := some k1c2 }
def k1c3 : Code := { maxStack := 3, maxLocals := 6, code := method_4_code, exceptionTable := #[], attributes := #[] }
def k1m3 : Method := { name := "make", desc := "(ICCCC)Ljava/lang/String;", sig := { parameters := [.int, .char, .char, .char, .char], returnType := some (.object "java/lang/String") }, accessFlags := 10, code := some k1c3 }
def k1c4 : Code := { maxStack := 5, maxLocals := 12, code := code, exceptionTable := #[], attributes := #[] }
def k1m4 : Method := { name := "law", desc := "(IIIII)Z", sig := { parameters := [.int, .int, .int, .int, .int], returnType := some .boolean }, accessFlags := 9, code := some k1c4 }
/-- com/example/countersign/countersign/request/HeaderIsTokenPinLaw -/
def k1 : Class := { plain "com/example/countersign/countersign/request/HeaderIsTokenPinLaw" (some 0) with
  accessFlags := 49
  interfaces := #[]
  cf := some (fileOf pool1 8 #[] #[{ accessFlags := 1, nameIndex := 5, descriptorIndex := 6, attributes := #[] }, { accessFlags := 10, nameIndex := 11, descriptorIndex := 12, attributes := #[] }, { accessFlags := 10, nameIndex := 26, descriptorIndex := 12, attributes := #[] }, { accessFlags := 10, nameIndex := 22, descriptorIndex := 23, attributes := #[] }, { accessFlags := 9, nameIndex := 36, descriptorIndex := 37, attributes := #[] }] 49 2 #[] #[])
  fields := #[]
  methods := #[k1m0, k1m1, k1m2, k1m3, k1m4]
  instanceTypes := #[]
  staticTypes := #[]
  resolved := Array.replicate 40 none
  statics := none }

def pool2 : Array CpInfo := pool [(1, .class_ 2), (0, u "java/io/Serializable"), (0, .class_ 4), (0, u "java/lang/Object")] 2

/-- java/io/Serializable -/
def k2 : Class := { plain "java/io/Serializable" (some 0) with
  accessFlags := 1537
  interfaces := #[]
  cf := some (fileOf pool2 1 #[] #[] 1537 3 #[] #[])
  fields := #[]
  methods := #[]
  instanceTypes := #[]
  staticTypes := #[]
  resolved := Array.replicate 7 none
  statics := none }

def pool3 : Array CpInfo := pool [(1, .class_ 2), (0, u "java/lang/Comparable"), (0, .class_ 4), (0, u "java/lang/Object")] 7

/-- java/lang/Comparable -/
def k3 : Class := { plain "java/lang/Comparable" (some 0) with
  accessFlags := 1537
  interfaces := #[]
  cf := some (fileOf pool3 1 #[] #[] 1537 3 #[] #[])
  fields := #[]
  methods := #[]
  instanceTypes := #[]
  staticTypes := #[]
  resolved := Array.replicate 12 none
  statics := none }

def pool4 : Array CpInfo := pool [(2, .class_ 4), (1, u "java/lang/CharSequence"), (42, .class_ 48), (0, u "java/lang/CharSequence$1CodePointIterator"), (10, .class_ 60), (0, u "java/lang/CharSequence$1CharIterator"), (5, .class_ 67), (0, u "java/lang/Object")] 63

/-- java/lang/CharSequence -/
def k4 : Class := { plain "java/lang/CharSequence" (some 0) with
  accessFlags := 1537
  interfaces := #[]
  cf := some (fileOf pool4 2 #[.nestMembers #[47, 59]] #[] 1537 66 #[] #[])
  fields := #[]
  methods := #[]
  instanceTypes := #[]
  staticTypes := #[]
  resolved := Array.replicate 131 none
  statics := none }

def pool5 : Array CpInfo := pool [(1, .class_ 2), (0, u "java/lang/constant/Constable"), (0, .class_ 4), (0, u "java/lang/Object")] 6

/-- java/lang/constant/Constable -/
def k5 : Class := { plain "java/lang/constant/Constable" (some 0) with
  accessFlags := 1537
  interfaces := #[]
  cf := some (fileOf pool5 1 #[] #[] 1537 3 #[] #[])
  fields := #[]
  methods := #[]
  instanceTypes := #[]
  staticTypes := #[]
  resolved := Array.replicate 11 none
  statics := none }

def pool6 : Array CpInfo := pool [(1, .class_ 2), (0, u "java/lang/constant/ConstantDesc"), (0, .class_ 4), (0, u "java/lang/Object")] 32

/-- java/lang/constant/ConstantDesc -/
def k6 : Class := { plain "java/lang/constant/ConstantDesc" (some 0) with
  accessFlags := 1537
  interfaces := #[]
  cf := some (fileOf pool6 1 #[] #[] 1537 3 #[] #[])
  fields := #[]
  methods := #[]
  instanceTypes := #[]
  staticTypes := #[]
  resolved := Array.replicate 37 none
  statics := none }

def pool7 : Array CpInfo := pool [(1, .methodref 2 3), (0, .class_ 4), (0, .nameAndType 5 6), (0, u "java/lang/Object"), (0, u "<init>"), (0, u "()V"), (0, .string 8), (0, u ""), (0, .fieldref 10 11), (0, .class_ 12), (0, .nameAndType 13 14), (0, u "java/lang/String"), (0, u "value"), (0, u "[B"), (0, .fieldref 10 16), (0, .nameAndType 17 18), (0, u "coder"), (0, u "B"), (2, u "hash"), (0, u "I"), (2, u "hashIsZero"), (0, u "Z"), (0, .methodref 10 28), (0, .nameAndType 5 29), (0, u "([CIILjava/lang/Void;)V"), (8, .fieldref 10 39), (0, .nameAndType 40 26), (0, u "COMPACT_STRINGS"), (1, .class_ 44), (1, u "java/lang/StringUTF16"), (0, u "compress"), (1, .methodref 42 48), (0, .nameAndType 49 50), (0, u "coderFromArrayLen"), (0, u "([BI)B"), (56, .class_ 109), (1, u "java/lang/StringLatin1"), (32, u "()Z"), (34, .methodref 42 178), (0, .nameAndType 45 179), (0, u "([CII)[B"), (154, u "()I"), (0, .methodref 10 336), (0, .nameAndType 17 337), (0, u "()B"), (25, u "([BI)C"), (27, u "(II)V"), (35, u "(I)C"), (64, .methodref 10 493), (0, .nameAndType 494 142), (0, u "isLatin1"), (0, .methodref 107 496), (0, .nameAndType 497 363), (0, u "charAt"), (0, .methodref 42 496), (2, u "checkIndex"), (3, .methodref 10 506), (0, .nameAndType 507 334), (0, u "length"), (67, .class_ 576), (0, u "java/lang/CharSequence"), (22, u "CASE_INSENSITIVE_ORDER"), (0, u "Ljava/util/Comparator;"), (32, .methodref 10 634), (0, .nameAndType 635 636), (0, u "indexOf"), (0, u "(II)I"), (0, .methodref 107 638), (0, .nameAndType 635 639), (0, u "([BIII)I"), (52, u "isEmpty"), (72, u "(I)I"), (244, u "([C)V"), (42, .fieldref 1054 1055), (0, .class_ 1056), (0, .nameAndType 1057 1058), (0, u "jdk/internal/util/Preconditions"), (0, u "SIOOBE_FORMATTER"), (0, u "Ljava/util/function/BiFunction;"), (0, .methodref 1054 1060), (0, .nameAndType 501 1061), (0, u "(IILjava/util/function/BiFunction;)I"), (39, u "serialPersistentFields"), (0, u "[Ljava/io/ObjectStreamField;"), (0, .class_ 1104), (0, u "java/lang/String$CaseInsensitiveComparator"), (1, .class_ 1107), (0, u "java/io/Serializable"), (0, .class_ 1109), (0, u "java/lang/Comparable"), (0, .class_ 1111), (0, u "java/lang/constant/Constable"), (0, .class_ 1113), (0, u "java/lang/constant/ConstantDesc"), (2, u "serialVersionUID"), (0, u "J"), (3, u "REPL"), (0, u "C"), (2, u "LATIN1"), (1, u "UTF16")] 323

def k7m0 : Method := { name := "<init>", desc := "()V", sig := { parameters := [], returnType := none }, accessFlags := 1, code := none }
def k7c1 : Code := { maxStack := 5, maxLocals := 2, code := jdk_42_method_3_code, exceptionTable := #[], attributes := #[] }
def k7m1 : Method := { name := "<init>", desc := "([C)V", sig := { parameters := [(.array .char)], returnType := none }, accessFlags := 1, code := some k7c1 }
def k7c2 : Code := { maxStack := 2, maxLocals := 1, code := jdk_42_method_54_code, exceptionTable := #[], attributes := #[] }
def k7m2 : Method := { name := "length", desc := "()I", sig := { parameters := [], returnType := some .int }, accessFlags := 1, code := some k7c2 }
def k7c3 : Code := { maxStack := 1, maxLocals := 1, code := jdk_42_method_55_code, exceptionTable := #[], attributes := #[] }
def k7m3 : Method := { name := "isEmpty", desc := "()Z", sig := { parameters := [], returnType := some .boolean }, accessFlags := 1, code := some k7c3 }
def k7c4 : Code := { maxStack := 2, maxLocals := 2, code := jdk_42_method_56_code, exceptionTable := #[], attributes := #[] }
def k7m4 : Method := { name := "charAt", desc := "(I)C", sig := { parameters := [.int], returnType := some .char }, accessFlags := 1, code := some k7c4 }
def k7c5 : Code := { maxStack := 3, maxLocals := 2, code := jdk_42_method_79_code, exceptionTable := #[], attributes := #[] }
def k7m5 : Method := { name := "indexOf", desc := "(I)I", sig := { parameters := [.int], returnType := some .int }, accessFlags := 1, code := some k7c5 }
def k7c6 : Code := { maxStack := 4, maxLocals := 3, code := jdk_42_method_80_code, exceptionTable := #[], attributes := #[] }
def k7m6 : Method := { name := "indexOf", desc := "(II)I", sig := { parameters := [.int, .int], returnType := some .int }, accessFlags := 1, code := some k7c6 }
def k7c7 : Code := { maxStack := 4, maxLocals := 6, code := jdk_42_method_149_code, exceptionTable := #[], attributes := #[] }
def k7m7 : Method := { name := "<init>", desc := "([CIILjava/lang/Void;)V", sig := { parameters := [(.array .char), .int, .int, (.object "java/lang/Void")], returnType := none }, accessFlags := 2, code := some k7c7 }
def k7c8 : Code := { maxStack := 1, maxLocals := 1, code := jdk_42_method_152_code, exceptionTable := #[], attributes := #[] }
def k7m8 : Method := { name := "coder", desc := "()B", sig := { parameters := [], returnType := some .byte }, accessFlags := 0, code := some k7c8 }
def k7c9 : Code := { maxStack := 1, maxLocals := 1, code := jdk_42_method_154_code, exceptionTable := #[], attributes := #[] }
def k7m9 : Method := { name := "isLatin1", desc := "()Z", sig := { parameters := [], returnType := some .boolean }, accessFlags := 0, code := some k7c9 }
def k7c10 : Code := { maxStack := 3, maxLocals := 2, code := jdk_42_method_155_code, exceptionTable := #[], attributes := #[] }
def k7m10 : Method := { name := "checkIndex", desc := "(II)V", sig := { parameters := [.int, .int], returnType := none }, accessFlags := 8, code := some k7c10 }
/-- java/lang/String -/
def k7 : Class := { plain "java/lang/String" (some 0) with
  accessFlags := 49
  interfaces := #[2, 3, 4, 5, 6]
  cf := some (fileOf pool7 10 #[.nestMembers #[1103]] #[{ accessFlags := 1, nameIndex := 5, descriptorIndex := 6, attributes := #[] }, { accessFlags := 1, nameIndex := 5, descriptorIndex := 1010, attributes := #[] }, { accessFlags := 1, nameIndex := 507, descriptorIndex := 334, attributes := #[] }, { accessFlags := 1, nameIndex := 692, descriptorIndex := 142, attributes := #[] }, { accessFlags := 1, nameIndex := 497, descriptorIndex := 427, attributes := #[] }, { accessFlags := 1, nameIndex := 635, descriptorIndex := 765, attributes := #[] }, { accessFlags := 1, nameIndex := 635, descriptorIndex := 636, attributes := #[] }, { accessFlags := 2, nameIndex := 5, descriptorIndex := 29, attributes := #[] }, { accessFlags := 0, nameIndex := 17, descriptorIndex := 337, attributes := #[] }, { accessFlags := 0, nameIndex := 494, descriptorIndex := 142, attributes := #[] }, { accessFlags := 8, nameIndex := 501, descriptorIndex := 391, attributes := #[] }] 49 2 #[1106, 1108, 575, 1110, 1112] #[{ accessFlags := 18, nameIndex := 13, descriptorIndex := 14, attributes := #[] }, { accessFlags := 18, nameIndex := 17, descriptorIndex := 18, attributes := #[] }, { accessFlags := 2, nameIndex := 21, descriptorIndex := 22, attributes := #[] }, { accessFlags := 2, nameIndex := 25, descriptorIndex := 26, attributes := #[] }, { accessFlags := 26, nameIndex := 1116, descriptorIndex := 1117, attributes := #[] }, { accessFlags := 24, nameIndex := 40, descriptorIndex := 26, attributes := #[] }, { accessFlags := 26, nameIndex := 1101, descriptorIndex := 1102, attributes := #[] }, { accessFlags := 26, nameIndex := 1121, descriptorIndex := 1122, attributes := #[] }, { accessFlags := 25, nameIndex := 599, descriptorIndex := 600, attributes := #[] }, { accessFlags := 24, nameIndex := 1125, descriptorIndex := 18, attributes := #[] }, { accessFlags := 24, nameIndex := 1127, descriptorIndex := 18, attributes := #[] }])
  fields := #[{ name := "value", type := (.array .byte), accessFlags := 18, slot := 0, constantValue := 0 }, { name := "coder", type := .byte, accessFlags := 18, slot := 1, constantValue := 0 }, { name := "hash", type := .int, accessFlags := 2, slot := 2, constantValue := 0 }, { name := "hashIsZero", type := .boolean, accessFlags := 2, slot := 3, constantValue := 0 }, { name := "serialVersionUID", type := .long, accessFlags := 26, slot := 0, constantValue := 0 }, { name := "COMPACT_STRINGS", type := .boolean, accessFlags := 24, slot := 1, constantValue := 0 }, { name := "serialPersistentFields", type := (.array (.object "java/io/ObjectStreamField")), accessFlags := 26, slot := 2, constantValue := 0 }, { name := "REPL", type := .char, accessFlags := 26, slot := 3, constantValue := 0 }, { name := "CASE_INSENSITIVE_ORDER", type := (.object "java/util/Comparator"), accessFlags := 25, slot := 4, constantValue := 0 }, { name := "LATIN1", type := .byte, accessFlags := 24, slot := 5, constantValue := 0 }, { name := "UTF16", type := .byte, accessFlags := 24, slot := 6, constantValue := 0 }]
  methods := #[k7m0, k7m1, k7m2, k7m3, k7m4, k7m5, k7m6, k7m7, k7m8, k7m9, k7m10]
  instanceTypes := #[(.array .byte), .byte, .int, .boolean]
  staticTypes := #[.long, .boolean, (.array (.object "java/io/ObjectStreamField")), .char, (.object "java/util/Comparator"), .byte, .byte]
  resolved := Array.replicate 1451 none
  statics := some 0 }

def pool8 : Array CpInfo := pool [(2, .class_ 4), (1, u "java/lang/Object"), (0, u "<init>"), (0, u "()V"), (0, .class_ 8), (0, u "java/lang/Record")] 13

def k8m0 : Method := { name := "<init>", desc := "()V", sig := { parameters := [], returnType := none }, accessFlags := 4, code := none }
/-- java/lang/Record -/
def k8 : Class := { plain "java/lang/Record" (some 0) with
  accessFlags := 1057
  interfaces := #[]
  cf := some (fileOf pool8 7 #[] #[{ accessFlags := 4, nameIndex := 5, descriptorIndex := 6, attributes := #[] }] 1057 2 #[] #[])
  fields := #[]
  methods := #[k8m0]
  instanceTypes := #[]
  staticTypes := #[]
  resolved := Array.replicate 22 none
  statics := none }

def pool9 : Array CpInfo := pool [(2, .class_ 4), (1, u "java/lang/Record"), (3, .class_ 10), (1, u "com/example/countersign/countersign/request/Header"), (0, u "isToken"), (0, u "(Ljava/lang/String;)Z"), (15, u "name"), (0, u "Ljava/lang/String;"), (2, u "value"), (1, .class_ 36), (1, u "java/lang/String"), (4, .methodref 34 42), (0, .nameAndType 43 44), (0, u "indexOf"), (0, u "(I)I"), (21, .methodref 34 67), (0, .nameAndType 68 69), (0, u "isEmpty"), (0, u "()Z"), (0, .methodref 34 71), (0, .nameAndType 72 73), (0, u "length"), (0, u "()I"), (0, .methodref 34 75), (0, .nameAndType 76 77), (0, u "charAt"), (0, u "(I)C"), (0, .string 79), (0, u "!#$%&'*+-.^_`|~"), (12, u "TOKEN_SYMBOLS")] 47

def k9c0 : Code := { maxStack := 2, maxLocals := 4, code := prog_28_method_5_code, exceptionTable := #[], attributes := #[] }
def k9m0 : Method := { name := "isToken", desc := "(Ljava/lang/String;)Z", sig := { parameters := [(.object "java/lang/String")], returnType := some .boolean }, accessFlags := 8, code := some k9c0 }
/-- com/example/countersign/countersign/request/Header -/
def k9 : Class := { plain "com/example/countersign/countersign/request/Header" (some 8) with
  accessFlags := 49
  interfaces := #[]
  cf := some (fileOf pool9 8 #[] #[{ accessFlags := 8, nameIndex := 11, descriptorIndex := 12, attributes := #[] }] 49 2 #[] #[{ accessFlags := 18, nameIndex := 28, descriptorIndex := 29, attributes := #[] }, { accessFlags := 18, nameIndex := 32, descriptorIndex := 29, attributes := #[] }, { accessFlags := 26, nameIndex := 92, descriptorIndex := 29, attributes := #[] }])
  fields := #[{ name := "name", type := (.object "java/lang/String"), accessFlags := 18, slot := 0, constantValue := 0 }, { name := "value", type := (.object "java/lang/String"), accessFlags := 18, slot := 1, constantValue := 0 }, { name := "TOKEN_SYMBOLS", type := (.object "java/lang/String"), accessFlags := 26, slot := 0, constantValue := 0 }]
  methods := #[k9m0]
  instanceTypes := #[(.object "java/lang/String"), (.object "java/lang/String")]
  staticTypes := #[(.object "java/lang/String")]
  resolved := Array.replicate 140 none
  statics := none }

def pool10 : Array CpInfo := pool [(3, .class_ 4), (0, u "java/lang/String"), (1, .class_ 8), (1, u "java/lang/Object"), (0, u "<init>"), (0, u "()V"), (0, .methodref 12 13), (0, .class_ 14), (0, .nameAndType 15 16), (0, u "java/lang/StringUTF16"), (0, u "newBytesLength"), (0, u "(I)I"), (3, .integer 1073741823), (23, .fieldref 12 45), (0, .nameAndType 46 47), (0, u "$assertionsDisabled"), (0, u "Z"), (0, .methodref 12 49), (0, .nameAndType 50 51), (0, u "length"), (0, u "([B)I"), (7, .fieldref 12 60), (0, .nameAndType 61 62), (0, u "HI_BYTE_SHIFT"), (0, u "I"), (0, .fieldref 12 64), (0, .nameAndType 65 62), (0, u "LO_BYTE_SHIFT"), (1, .methodref 12 68), (0, .nameAndType 69 70), (0, u "checkIndex"), (0, u "(I[B)V"), (0, .methodref 12 72), (0, .nameAndType 73 74), (0, u "getChar"), (0, u "([BI)C"), (32, .methodref 12 108), (0, .nameAndType 109 110), (0, u "newBytesFor"), (0, u "(I)[B"), (0, .methodref 12 112), (0, .nameAndType 113 114), (0, u "putChar"), (0, u "([BII)V"), (0, .methodref 12 116), (0, .nameAndType 117 118), (0, u "compress"), (0, u "([CI[BII)I"), (0, .methodref 12 120), (0, .nameAndType 121 122), (0, u "toBytes"), (0, u "([CII)[B"), (138, u "coderFromArrayLen"), (0, u "([BI)B"), (106, .class_ 371), (1, u "java/lang/StringUTF16$LinesSpliterator"), (20, u "charAt"), (21, .methodref 3 415), (0, .nameAndType 69 416), (0, u "(II)V"), (13, u "MAX_LENGTH"), (196, .class_ 628), (0, u "java/lang/StringUTF16$CodePointsSpliterator"), (0, .class_ 630), (0, u "java/lang/StringUTF16$CharsSpliterator")] 4

def k10m0 : Method := { name := "<init>", desc := "()V", sig := { parameters := [], returnType := none }, accessFlags := 0, code := none }
def k10c1 : Code := { maxStack := 1, maxLocals := 1, code := jdk_52_method_2_code, exceptionTable := #[], attributes := #[] }
def k10m1 : Method := { name := "newBytesFor", desc := "(I)[B", sig := { parameters := [.int], returnType := some (.array .byte) }, accessFlags := 9, code := some k10c1 }
def k10c2 : Code := { maxStack := 4, maxLocals := 1, code := jdk_52_method_3_code, exceptionTable := #[], attributes := #[] }
def k10m2 : Method := { name := "newBytesLength", desc := "(I)I", sig := { parameters := [.int], returnType := some .int }, accessFlags := 9, code := some k10c2 }
def k10c3 : Code := { maxStack := 4, maxLocals := 3, code := jdk_52_method_4_code, exceptionTable := #[], attributes := #[] }
def k10m3 : Method := { name := "putChar", desc := "([BII)V", sig := { parameters := [(.array .byte), .int, .int], returnType := none }, accessFlags := 8, code := some k10c3 }
def k10c4 : Code := { maxStack := 3, maxLocals := 2, code := jdk_52_method_5_code, exceptionTable := #[], attributes := #[] }
def k10m4 : Method := { name := "getChar", desc := "([BI)C", sig := { parameters := [(.array .byte), .int], returnType := some .char }, accessFlags := 8, code := some k10c4 }
def k10c5 : Code := { maxStack := 2, maxLocals := 1, code := jdk_52_method_6_code, exceptionTable := #[], attributes := #[] }
def k10m5 : Method := { name := "length", desc := "([B)I", sig := { parameters := [(.array .byte)], returnType := some .int }, accessFlags := 9, code := some k10c5 }
def k10c6 : Code := { maxStack := 4, maxLocals := 5, code := jdk_52_method_14_code, exceptionTable := #[], attributes := #[] }
def k10m6 : Method := { name := "toBytes", desc := "([CII)[B", sig := { parameters := [(.array .char), .int, .int], returnType := some (.array .byte) }, accessFlags := 9, code := some k10c6 }
def k10c7 : Code := { maxStack := 2, maxLocals := 2, code := jdk_52_method_15_code, exceptionTable := #[], attributes := #[] }
def k10m7 : Method := { name := "coderFromArrayLen", desc := "([BI)B", sig := { parameters := [(.array .byte), .int], returnType := some .byte }, accessFlags := 8, code := some k10c7 }
def k10c8 : Code := { maxStack := 5, maxLocals := 6, code := jdk_52_method_16_code, exceptionTable := #[], attributes := #[] }
def k10m8 : Method := { name := "compress", desc := "([CII)[B", sig := { parameters := [(.array .char), .int, .int], returnType := some (.array .byte) }, accessFlags := 9, code := some k10c8 }
def k10c9 : Code := { maxStack := 3, maxLocals := 7, code := jdk_52_method_21_code, exceptionTable := #[], attributes := #[] }
def k10m9 : Method := { name := "compress", desc := "([CI[BII)I", sig := { parameters := [(.array .char), .int, (.array .byte), .int, .int], returnType := some .int }, accessFlags := 9, code := some k10c9 }
def k10c10 : Code := { maxStack := 2, maxLocals := 2, code := jdk_52_method_83_code, exceptionTable := #[], attributes := #[] }
def k10m10 : Method := { name := "charAt", desc := "([BI)C", sig := { parameters := [(.array .byte), .int], returnType := some .char }, accessFlags := 9, code := some k10c10 }
def k10c11 : Code := { maxStack := 2, maxLocals := 2, code := jdk_52_method_91_code, exceptionTable := #[], attributes := #[] }
def k10m11 : Method := { name := "checkIndex", desc := "(I[B)V", sig := { parameters := [.int, (.array .byte)], returnType := none }, accessFlags := 9, code := some k10c11 }
/-- java/lang/StringUTF16 -/
def k10 : Class := { plain "java/lang/StringUTF16" (some 0) with
  accessFlags := 48
  interfaces := #[]
  cf := some (fileOf pool10 12 #[.nestMembers #[627, 629, 369]] #[{ accessFlags := 0, nameIndex := 9, descriptorIndex := 10, attributes := #[] }, { accessFlags := 9, nameIndex := 109, descriptorIndex := 110, attributes := #[] }, { accessFlags := 9, nameIndex := 15, descriptorIndex := 16, attributes := #[] }, { accessFlags := 8, nameIndex := 113, descriptorIndex := 114, attributes := #[] }, { accessFlags := 8, nameIndex := 73, descriptorIndex := 74, attributes := #[] }, { accessFlags := 9, nameIndex := 50, descriptorIndex := 51, attributes := #[] }, { accessFlags := 9, nameIndex := 121, descriptorIndex := 122, attributes := #[] }, { accessFlags := 8, nameIndex := 261, descriptorIndex := 262, attributes := #[] }, { accessFlags := 9, nameIndex := 117, descriptorIndex := 122, attributes := #[] }, { accessFlags := 9, nameIndex := 117, descriptorIndex := 118, attributes := #[] }, { accessFlags := 9, nameIndex := 392, descriptorIndex := 74, attributes := #[] }, { accessFlags := 9, nameIndex := 69, descriptorIndex := 70, attributes := #[] }] 48 6 #[] #[{ accessFlags := 26, nameIndex := 61, descriptorIndex := 62, attributes := #[] }, { accessFlags := 26, nameIndex := 65, descriptorIndex := 62, attributes := #[] }, { accessFlags := 24, nameIndex := 430, descriptorIndex := 62, attributes := #[] }, { accessFlags := 4120, nameIndex := 46, descriptorIndex := 47, attributes := #[] }])
  fields := #[{ name := "HI_BYTE_SHIFT", type := .int, accessFlags := 26, slot := 0, constantValue := 0 }, { name := "LO_BYTE_SHIFT", type := .int, accessFlags := 26, slot := 1, constantValue := 0 }, { name := "MAX_LENGTH", type := .int, accessFlags := 24, slot := 2, constantValue := 0 }, { name := "$assertionsDisabled", type := .boolean, accessFlags := 4120, slot := 3, constantValue := 0 }]
  methods := #[k10m0, k10m1, k10m2, k10m3, k10m4, k10m5, k10m6, k10m7, k10m8, k10m9, k10m10, k10m11]
  instanceTypes := #[]
  staticTypes := #[.int, .int, .int, .boolean]
  resolved := Array.replicate 635 none
  statics := some 1 }

def pool11 : Array CpInfo := pool [(1, .class_ 2), (0, u "java/lang/String"), (1, .class_ 6), (1, u "java/lang/Object"), (0, u "<init>"), (0, u "()V"), (0, .methodref 1 10), (0, .nameAndType 11 12), (0, u "checkIndex"), (0, u "(II)V"), (1, .class_ 16), (1, u "java/lang/StringLatin1"), (21, .methodref 39 40), (0, .class_ 41), (0, .nameAndType 42 43), (0, u "java/lang/Math"), (0, u "min"), (0, u "(II)I"), (9, u "([BI)C"), (34, .methodref 14 89), (0, .nameAndType 90 91), (0, u "canEncode"), (0, u "(I)Z"), (0, .methodref 39 93), (0, .nameAndType 94 43), (0, u "max"), (0, .methodref 14 96), (0, .nameAndType 97 98), (0, u "indexOfChar"), (0, u "([BIII)I"), (2, u "indexOf"), (19, u "$assertionsDisabled"), (0, u "Z"), (98, .class_ 223), (1, u "java/lang/StringLatin1$LinesSpliterator"), (28, u "charAt"), (137, .class_ 391), (0, u "java/lang/StringLatin1$CharsSpliterator")] 3

def k11m0 : Method := { name := "<init>", desc := "()V", sig := { parameters := [], returnType := none }, accessFlags := 0, code := none }
def k11c1 : Code := { maxStack := 2, maxLocals := 2, code := jdk_43_method_2_code, exceptionTable := #[], attributes := #[] }
def k11m1 : Method := { name := "charAt", desc := "([BI)C", sig := { parameters := [(.array .byte), .int], returnType := some .char }, accessFlags := 9, code := some k11c1 }
def k11c2 : Code := { maxStack := 2, maxLocals := 1, code := jdk_43_method_4_code, exceptionTable := #[], attributes := #[] }
def k11m2 : Method := { name := "canEncode", desc := "(I)Z", sig := { parameters := [.int], returnType := some .boolean }, accessFlags := 9, code := some k11c2 }
def k11c3 : Code := { maxStack := 4, maxLocals := 4, code := jdk_43_method_22_code, exceptionTable := #[], attributes := #[] }
def k11m3 : Method := { name := "indexOf", desc := "([BIII)I", sig := { parameters := [(.array .byte), .int, .int, .int], returnType := some .int }, accessFlags := 9, code := some k11c3 }
def k11c4 : Code := { maxStack := 2, maxLocals := 6, code := jdk_43_method_23_code, exceptionTable := #[], attributes := #[] }
def k11m4 : Method := { name := "indexOfChar", desc := "([BIII)I", sig := { parameters := [(.array .byte), .int, .int, .int], returnType := some .int }, accessFlags := 10, code := some k11c4 }
/-- java/lang/StringLatin1 -/
def k11 : Class := { plain "java/lang/StringLatin1" (some 0) with
  accessFlags := 48
  interfaces := #[]
  cf := some (fileOf pool11 14 #[.nestMembers #[390, 221]] #[{ accessFlags := 0, nameIndex := 7, descriptorIndex := 8, attributes := #[] }, { accessFlags := 9, nameIndex := 252, descriptorIndex := 53, attributes := #[] }, { accessFlags := 9, nameIndex := 90, descriptorIndex := 91, attributes := #[] }, { accessFlags := 9, nameIndex := 101, descriptorIndex := 98, attributes := #[] }, { accessFlags := 10, nameIndex := 97, descriptorIndex := 98, attributes := #[] }] 48 4 #[] #[{ accessFlags := 4120, nameIndex := 121, descriptorIndex := 122, attributes := #[] }])
  fields := #[{ name := "$assertionsDisabled", type := .boolean, accessFlags := 4120, slot := 0, constantValue := 0 }]
  methods := #[k11m0, k11m1, k11m2, k11m3, k11m4]
  instanceTypes := #[]
  staticTypes := #[.boolean]
  resolved := Array.replicate 395 none
  statics := none }

def pool12 : Array CpInfo := pool [(2, .class_ 4), (1, u "java/lang/Object"), (0, u "<init>"), (0, u "()V"), (17, .class_ 26), (1, u "jdk/internal/util/Preconditions"), (6, u "checkIndex"), (21, .class_ 56), (0, u "jdk/internal/util/Preconditions$4"), (57, .class_ 115), (0, u "jdk/internal/util/Preconditions$1"), (7, u "SIOOBE_FORMATTER"), (0, u "Ljava/util/function/BiFunction;"), (0, .class_ 126), (0, u "jdk/internal/util/Preconditions$2"), (3, u "AIOOBE_FORMATTER"), (0, .class_ 132), (0, u "jdk/internal/util/Preconditions$3"), (3, u "IOOBE_FORMATTER"), (41, u "(IILjava/util/function/BiFunction;)I")] 15

def k12m0 : Method := { name := "<init>", desc := "()V", sig := { parameters := [], returnType := none }, accessFlags := 1, code := none }
def k12c1 : Code := { maxStack := 3, maxLocals := 3, code := jdk_41_method_11_code, exceptionTable := #[], attributes := #[] }
def k12m1 : Method := { name := "checkIndex", desc := "(IILjava/util/function/BiFunction;)I", sig := { parameters := [.int, .int, (.object "java/util/function/BiFunction")], returnType := some .int }, accessFlags := 9, code := some k12c1 }
/-- jdk/internal/util/Preconditions -/
def k12 : Class := { plain "jdk/internal/util/Preconditions" (some 0) with
  accessFlags := 33
  interfaces := #[]
  cf := some (fileOf pool12 24 #[.nestMembers #[55, 131, 125, 114]] #[{ accessFlags := 1, nameIndex := 5, descriptorIndex := 6, attributes := #[] }, { accessFlags := 9, nameIndex := 33, descriptorIndex := 178, attributes := #[] }] 33 2 #[] #[{ accessFlags := 25, nameIndex := 123, descriptorIndex := 124, attributes := #[] }, { accessFlags := 25, nameIndex := 130, descriptorIndex := 124, attributes := #[] }, { accessFlags := 25, nameIndex := 136, descriptorIndex := 124, attributes := #[] }])
  fields := #[{ name := "SIOOBE_FORMATTER", type := (.object "java/util/function/BiFunction"), accessFlags := 25, slot := 0, constantValue := 0 }, { name := "AIOOBE_FORMATTER", type := (.object "java/util/function/BiFunction"), accessFlags := 25, slot := 1, constantValue := 0 }, { name := "IOOBE_FORMATTER", type := (.object "java/util/function/BiFunction"), accessFlags := 25, slot := 2, constantValue := 0 }]
  methods := #[k12m0, k12m1]
  instanceTypes := #[]
  staticTypes := #[(.object "java/util/function/BiFunction"), (.object "java/util/function/BiFunction"), (.object "java/util/function/BiFunction")]
  resolved := Array.replicate 194 none
  statics := some 2 }

def pool13 : Array CpInfo := pool [(1, .class_ 2), (0, u "java/lang/Math"), (1, .class_ 6), (1, u "java/lang/Object"), (0, u "<init>"), (0, u "()V"), (89, .class_ 100), (1, u "java/lang/Math$RandomNumberGeneratorHolder"), (71, u "negativeZeroFloatBits"), (0, u "J"), (2, u "negativeZeroDoubleBits"), (21, u "max"), (2, u "min"), (43, u "$assertionsDisabled"), (0, u "Z"), (88, u "(II)I"), (2, u "twoToTheDoubleScaleDown"), (0, u "D"), (4, u "twoToTheDoubleScaleUp"), (9, u "E"), (3, u "PI"), (2, u "TAU"), (2, u "DEGREES_TO_RADIANS"), (0, u "RADIANS_TO_DEGREES")] 94

def k13m0 : Method := { name := "<init>", desc := "()V", sig := { parameters := [], returnType := none }, accessFlags := 2, code := none }
def k13c1 : Code := { maxStack := 2, maxLocals := 2, code := jdk_29_method_65_code, exceptionTable := #[], attributes := #[] }
def k13m1 : Method := { name := "max", desc := "(II)I", sig := { parameters := [.int, .int], returnType := some .int }, accessFlags := 9, code := some k13c1 }
def k13c2 : Code := { maxStack := 2, maxLocals := 2, code := jdk_29_method_69_code, exceptionTable := #[], attributes := #[] }
def k13m2 : Method := { name := "min", desc := "(II)I", sig := { parameters := [.int, .int], returnType := some .int }, accessFlags := 9, code := some k13c2 }
/-- java/lang/Math -/
def k13 : Class := { plain "java/lang/Math" (some 0) with
  accessFlags := 49
  interfaces := #[]
  cf := some (fileOf pool13 1 #[.nestMembers #[98]] #[{ accessFlags := 2, nameIndex := 7, descriptorIndex := 8, attributes := #[] }, { accessFlags := 9, nameIndex := 198, descriptorIndex := 335, attributes := #[] }, { accessFlags := 9, nameIndex := 201, descriptorIndex := 335, attributes := #[] }] 49 4 #[] #[{ accessFlags := 25, nameIndex := 354, descriptorIndex := 339, attributes := #[] }, { accessFlags := 25, nameIndex := 358, descriptorIndex := 339, attributes := #[] }, { accessFlags := 25, nameIndex := 361, descriptorIndex := 339, attributes := #[] }, { accessFlags := 26, nameIndex := 364, descriptorIndex := 339, attributes := #[] }, { accessFlags := 26, nameIndex := 365, descriptorIndex := 339, attributes := #[] }, { accessFlags := 26, nameIndex := 172, descriptorIndex := 173, attributes := #[] }, { accessFlags := 26, nameIndex := 176, descriptorIndex := 173, attributes := #[] }, { accessFlags := 8, nameIndex := 344, descriptorIndex := 339, attributes := #[] }, { accessFlags := 8, nameIndex := 338, descriptorIndex := 339, attributes := #[] }, { accessFlags := 4120, nameIndex := 245, descriptorIndex := 246, attributes := #[] }])
  fields := #[{ name := "E", type := .double, accessFlags := 25, slot := 0, constantValue := 0 }, { name := "PI", type := .double, accessFlags := 25, slot := 1, constantValue := 0 }, { name := "TAU", type := .double, accessFlags := 25, slot := 2, constantValue := 0 }, { name := "DEGREES_TO_RADIANS", type := .double, accessFlags := 26, slot := 3, constantValue := 0 }, { name := "RADIANS_TO_DEGREES", type := .double, accessFlags := 26, slot := 4, constantValue := 0 }, { name := "negativeZeroFloatBits", type := .long, accessFlags := 26, slot := 5, constantValue := 0 }, { name := "negativeZeroDoubleBits", type := .long, accessFlags := 26, slot := 6, constantValue := 0 }, { name := "twoToTheDoubleScaleUp", type := .double, accessFlags := 8, slot := 7, constantValue := 0 }, { name := "twoToTheDoubleScaleDown", type := .double, accessFlags := 8, slot := 8, constantValue := 0 }, { name := "$assertionsDisabled", type := .boolean, accessFlags := 4120, slot := 9, constantValue := 0 }]
  methods := #[k13m0, k13m1, k13m2]
  instanceTypes := #[]
  staticTypes := #[.double, .double, .double, .double, .double, .long, .long, .double, .double, .boolean]
  resolved := Array.replicate 460 none
  statics := none }

def pool14 : Array CpInfo := pool [(9, u "<init>"), (6, .class_ 18), (1, u "java/lang/Object"), (0, u "()V"), (1, .class_ 23), (1, u "jdk/internal/util/ArraysSupport"), (0, u "LOG2_ARRAY_LONG_INDEX_SCALE"), (0, u "I"), (2, u "U"), (0, u "Ljdk/internal/misc/Unsafe;"), (8, u "BIG_ENDIAN"), (0, u "Z"), (8, u "LOG2_BYTE_BIT_SIZE"), (4, u "LOG2_ARRAY_INT_INDEX_SCALE"), (54, u "JLA"), (0, u "Ljdk/internal/access/JavaLangAccess;"), (11, u "LOG2_ARRAY_BOOLEAN_INDEX_SCALE"), (9, u "LOG2_ARRAY_BYTE_INDEX_SCALE"), (5, u "LOG2_ARRAY_CHAR_INDEX_SCALE"), (5, u "LOG2_ARRAY_SHORT_INDEX_SCALE"), (18, u "LOG2_ARRAY_FLOAT_INDEX_SCALE"), (24, u "LOG2_ARRAY_DOUBLE_INDEX_SCALE"), (89, u "T_BOOLEAN"), (2, u "T_CHAR"), (1, u "T_FLOAT"), (1, u "T_DOUBLE"), (1, u "T_BYTE"), (1, u "T_SHORT"), (1, u "T_INT"), (1, u "T_LONG"), (1, u "SOFT_MAX_ARRAY_LENGTH")] 83

def k14m0 : Method := { name := "<init>", desc := "()V", sig := { parameters := [], returnType := none }, accessFlags := 2, code := none }
/-- jdk/internal/util/ArraysSupport -/
def k14 : Class := { plain "jdk/internal/util/ArraysSupport" (some 0) with
  accessFlags := 33
  interfaces := #[]
  cf := some (fileOf pool14 21 #[] #[{ accessFlags := 2, nameIndex := 9, descriptorIndex := 19, attributes := #[] }] 33 16 #[] #[{ accessFlags := 24, nameIndex := 28, descriptorIndex := 29, attributes := #[] }, { accessFlags := 26, nameIndex := 38, descriptorIndex := 39, attributes := #[] }, { accessFlags := 25, nameIndex := 121, descriptorIndex := 25, attributes := #[] }, { accessFlags := 25, nameIndex := 131, descriptorIndex := 25, attributes := #[] }, { accessFlags := 25, nameIndex := 137, descriptorIndex := 25, attributes := #[] }, { accessFlags := 25, nameIndex := 143, descriptorIndex := 25, attributes := #[] }, { accessFlags := 25, nameIndex := 53, descriptorIndex := 25, attributes := #[] }, { accessFlags := 25, nameIndex := 24, descriptorIndex := 25, attributes := #[] }, { accessFlags := 25, nameIndex := 162, descriptorIndex := 25, attributes := #[] }, { accessFlags := 25, nameIndex := 187, descriptorIndex := 25, attributes := #[] }, { accessFlags := 26, nameIndex := 48, descriptorIndex := 25, attributes := #[] }, { accessFlags := 25, nameIndex := 277, descriptorIndex := 25, attributes := #[] }, { accessFlags := 25, nameIndex := 280, descriptorIndex := 25, attributes := #[] }, { accessFlags := 25, nameIndex := 282, descriptorIndex := 25, attributes := #[] }, { accessFlags := 25, nameIndex := 284, descriptorIndex := 25, attributes := #[] }, { accessFlags := 25, nameIndex := 286, descriptorIndex := 25, attributes := #[] }, { accessFlags := 25, nameIndex := 288, descriptorIndex := 25, attributes := #[] }, { accessFlags := 25, nameIndex := 290, descriptorIndex := 25, attributes := #[] }, { accessFlags := 25, nameIndex := 292, descriptorIndex := 25, attributes := #[] }, { accessFlags := 26, nameIndex := 108, descriptorIndex := 109, attributes := #[] }, { accessFlags := 25, nameIndex := 294, descriptorIndex := 25, attributes := #[] }])
  fields := #[{ name := "U", type := (.object "jdk/internal/misc/Unsafe"), accessFlags := 24, slot := 0, constantValue := 0 }, { name := "BIG_ENDIAN", type := .boolean, accessFlags := 26, slot := 1, constantValue := 0 }, { name := "LOG2_ARRAY_BOOLEAN_INDEX_SCALE", type := .int, accessFlags := 25, slot := 2, constantValue := 0 }, { name := "LOG2_ARRAY_BYTE_INDEX_SCALE", type := .int, accessFlags := 25, slot := 3, constantValue := 0 }, { name := "LOG2_ARRAY_CHAR_INDEX_SCALE", type := .int, accessFlags := 25, slot := 4, constantValue := 0 }, { name := "LOG2_ARRAY_SHORT_INDEX_SCALE", type := .int, accessFlags := 25, slot := 5, constantValue := 0 }, { name := "LOG2_ARRAY_INT_INDEX_SCALE", type := .int, accessFlags := 25, slot := 6, constantValue := 0 }, { name := "LOG2_ARRAY_LONG_INDEX_SCALE", type := .int, accessFlags := 25, slot := 7, constantValue := 0 }, { name := "LOG2_ARRAY_FLOAT_INDEX_SCALE", type := .int, accessFlags := 25, slot := 8, constantValue := 0 }, { name := "LOG2_ARRAY_DOUBLE_INDEX_SCALE", type := .int, accessFlags := 25, slot := 9, constantValue := 0 }, { name := "LOG2_BYTE_BIT_SIZE", type := .int, accessFlags := 26, slot := 10, constantValue := 0 }, { name := "T_BOOLEAN", type := .int, accessFlags := 25, slot := 11, constantValue := 0 }, { name := "T_CHAR", type := .int, accessFlags := 25, slot := 12, constantValue := 0 }, { name := "T_FLOAT", type := .int, accessFlags := 25, slot := 13, constantValue := 0 }, { name := "T_DOUBLE", type := .int, accessFlags := 25, slot := 14, constantValue := 0 }, { name := "T_BYTE", type := .int, accessFlags := 25, slot := 15, constantValue := 0 }, { name := "T_SHORT", type := .int, accessFlags := 25, slot := 16, constantValue := 0 }, { name := "T_INT", type := .int, accessFlags := 25, slot := 17, constantValue := 0 }, { name := "T_LONG", type := .int, accessFlags := 25, slot := 18, constantValue := 0 }, { name := "JLA", type := (.object "jdk/internal/access/JavaLangAccess"), accessFlags := 26, slot := 19, constantValue := 0 }, { name := "SOFT_MAX_ARRAY_LENGTH", type := .int, accessFlags := 25, slot := 20, constantValue := 0 }]
  methods := #[k14m0]
  instanceTypes := #[]
  staticTypes := #[(.object "jdk/internal/misc/Unsafe"), .boolean, .int, .int, .int, .int, .int, .int, .int, .int, .int, .int, .int, .int, .int, .int, .int, .int, .int, (.object "jdk/internal/access/JavaLangAccess"), .int]
  resolved := Array.replicate 378 none
  statics := none }

def pool15 : Array CpInfo := pool [(1, u "java/lang/Cloneable"), (0, .class_ 1), (0, u "java/lang/Object"), (0, .class_ 3)] 3

/-- java/lang/Cloneable -/
def k15 : Class := { plain "java/lang/Cloneable" (some 0) with
  accessFlags := 1537
  interfaces := #[]
  cf := some (fileOf pool15 2 #[] #[] 1537 4 #[] #[])
  fields := #[]
  methods := #[]
  instanceTypes := #[]
  staticTypes := #[]
  resolved := Array.replicate 8 none
  statics := none }

/-- the primitive byte -/
def k16 : Class := { plain "byte" none with kind := .primitive 'B', accessFlags := 0x411 }
/-- [B -/
def k17 : Class := { plain "[B" (some 0) with kind := .array 16 .byte, interfaces := #[15, 2], accessFlags := 1041 }

/-- the primitive char -/
def k18 : Class := { plain "char" none with kind := .primitive 'C', accessFlags := 0x411 }
/-- [C -/
def k19 : Class := { plain "[C" (some 0) with kind := .array 18 .char, interfaces := #[15, 2], accessFlags := 1041 }

/-- the primitive int -/
def k20 : Class := { plain "int" none with kind := .primitive 'I', accessFlags := 0x411 }
/-- [I -/
def k21 : Class := { plain "[I" (some 0) with kind := .array 20 .int, interfaces := #[15, 2], accessFlags := 1041 }

def heap : Heap := #[{ cls := 7, slots := #[.long 0, .int 1, .null, .int 0, .null, .int 0, .int 0], vm := .statics 7 },
  { cls := 10, slots := #[.int 0, .int 8, .int 0, .int 1], vm := .statics 10 },
  { cls := 12, slots := #[.null, .null, .null], vm := .statics 12 }]
def classes : Array Class := #[k0, k1, k2, k3, k4, k5, k6, k7, k8, k9, k10, k11, k12, k13, k14, k15, k16, k17, k18, k19, k20, k21]
def interned : List (Array UInt16 × Addr) := []
def slotsUsed : Nat := 14
def theMethod : MethodId := ⟨1, 4⟩
def args0 : Array Value := #[.int 5, .int 5, .int 5, .int 5, .int 5]
def aboutOver (below : List Frame) : State where
  vm := { classes := classes, interned := interned.toArray }
  heap := heap
  slotsUsed := slotsUsed
  threads := #[{ frames := .invoking theMethod args0 :: below }]
def below0 : List Frame := [.native { method := ⟨0, 0⟩, args := #[] }]
def about1 : State := aboutOver below0
def p0 : Program := .bare "" "" ""
def e0 : Env := launch0.env 0 0 0
theorem w_frames : about1.frames = Frame.invoking theMethod args0 :: below0 := rfl
set_option maxRecDepth 65536 in
theorem w_args : argsFit about1.vm theMethod args0 = true := by decide +kernel
set_option maxRecDepth 65536 in
theorem w_heap : heapFits about1 = true := by decide +kernel
set_option maxRecDepth 65536 in
theorem w_runnable : about1.curStatus? = some .runnable := by decide +kernel
set_option maxRecDepth 65536 in
theorem w_alone : about1.alone = true := by decide +kernel
set_option maxRecDepth 65536 in
theorem w_named : about1.methodNamed? x = some theMethod := by decide +kernel
set_option maxRecDepth 65536 in
theorem w_hears : about1.hears theMethod below0 = true := by decide +kernel
set_option maxRecDepth 65536 in
theorem w_ripe : about1.ripe theMethod args0 below0 = true := by decide +kernel
theorem w_running : about1.status = .running := rfl
set_option maxRecDepth 65536 in
theorem w_room : about1.hasRoom e0.platform room_1 = true :=
  launch0.hasRoom_least _ room_1 (by decide +kernel) (by decide +kernel) (by decide +kernel) (by decide +kernel) (by decide +kernel) (by decide +kernel)
theorem allAtoms_all (ts : List Jvm.Cond) (a : Array Jvm.Value) (st : Jvm.State) : (allAtoms ts).before a st = ts.all (fun c => c.before a st) := by
  induction ts with
  | nil => rfl
  | cons c t ih =>
    show (Jvm.Cond.and c (allAtoms t)).before a st = _
    rw [Jvm.Cond.before_and, ih, List.all_cons]
def words1 : List Jvm.Cond := Jvm.Cond.code x code maxLocals ret :: tables_1
/-- a 'code' word, met by the world's own term for the bytes: nothing is compared byte by byte -/
theorem code_word {y : MethodName} {bytes : ByteArray} {mx : Nat} {rt : Option FieldType} {a : Array Value} {s : State} {m : MethodId} {meth : Method} {c : Code} (h1 : s.methodNamed? y = some m) (h2 : s.vm.method? m = some meth) (h3 : meth.code = some c) (h4 : c.code = bytes)
    (h5 : (c.maxLocals == mx && c.exceptionTable.isEmpty && decide (c.maxStack ≤ mostOperands) && decide (meth.sig.returnType = rt) && !meth.locks && decide (parseMethodDescriptor y.desc = some meth.sig)) = true) : (Jvm.Cond.code y bytes mx rt).before a s = true := by
  simp only [Bool.and_eq_true, beq_iff_eq, Bool.not_eq_true', decide_eq_true_eq] at h5
  obtain ⟨⟨⟨⟨⟨g1, g2⟩, g3⟩, g4⟩, g5⟩, g6⟩ := h5
  simp [Cond.before, Cond.holds, Cond.value, h1, h2, h3, h4, g1, g2, g3, g4, g5, g6]
def isCode : Jvm.Cond → Bool
  | .code _ _ _ _ => true
  | _ => false
theorem all_split {L : List Jvm.Cond} {P : Jvm.Cond → Bool} (h1 : L.all (fun c => isCode c || P c) = true) (h2 : ∀ c ∈ L.filter isCode, P c = true) : L.all P = true := by
  refine List.all_eq_true.mpr fun c hc => ?_
  have h := List.all_eq_true.mp h1 c hc
  rcases Bool.eq_false_or_eq_true (isCode c) with hi | hi
  · exact h2 c (List.mem_filter.mpr ⟨hc, hi⟩)
  · simpa [hi] using h
set_option maxRecDepth 65536 in
theorem w_c0 : (Jvm.Cond.code x code maxLocals ret).before args0 about1 = true := code_word (m := ⟨1, 4⟩) (meth := k1m4) (c := k1c4) (by decide +kernel) rfl rfl rfl (by decide +kernel)
set_option maxRecDepth 65536 in
theorem w_c1 : (Jvm.Cond.code ({ cls := "com/example/countersign/countersign/request/HeaderIsTokenPinLaw", name := "make", desc := "(ICCCC)Ljava/lang/String;" } : Jvm.MethodName) method_4_code (6 : Nat) (Option.some (Jvm.ClassFile.FieldType.object "java/lang/String"))).before args0 about1 = true := code_word (m := ⟨1, 3⟩) (meth := k1m3) (c := k1c3) (by decide +kernel) rfl rfl rfl (by decide +kernel)
set_option maxRecDepth 65536 in
theorem w_c2 : (Jvm.Cond.code ({ cls := "java/lang/String", name := "<init>", desc := "([C)V" } : Jvm.MethodName) jdk_42_method_3_code (2 : Nat) (Option.none : Option Jvm.ClassFile.FieldType)).before args0 about1 = true := code_word (m := ⟨7, 1⟩) (meth := k7m1) (c := k7c1) (by decide +kernel) rfl rfl rfl (by decide +kernel)
set_option maxRecDepth 65536 in
theorem w_c3 : (Jvm.Cond.code ({ cls := "java/lang/String", name := "<init>", desc := "([CIILjava/lang/Void;)V" } : Jvm.MethodName) jdk_42_method_149_code (6 : Nat) (Option.none : Option Jvm.ClassFile.FieldType)).before args0 about1 = true := code_word (m := ⟨7, 7⟩) (meth := k7m7) (c := k7c7) (by decide +kernel) rfl rfl rfl (by decide +kernel)
set_option maxRecDepth 65536 in
theorem w_c4 : (Jvm.Cond.code ({ cls := "java/lang/Object", name := "<init>", desc := "()V" } : Jvm.MethodName) object_method_1_code (1 : Nat) (Option.none : Option Jvm.ClassFile.FieldType)).before args0 about1 = true := code_word (m := ⟨0, 0⟩) (meth := k0m0) (c := k0c0) (by decide +kernel) rfl rfl rfl (by decide +kernel)
set_option maxRecDepth 65536 in
theorem w_c5 : (Jvm.Cond.code ({ cls := "com/example/countersign/countersign/request/Header", name := "isToken", desc := "(Ljava/lang/String;)Z" } : Jvm.MethodName) prog_28_method_5_code (4 : Nat) (Option.some Jvm.ClassFile.FieldType.boolean)).before args0 about1 = true := code_word (m := ⟨9, 0⟩) (meth := k9m0) (c := k9c0) (by decide +kernel) rfl rfl rfl (by decide +kernel)
set_option maxRecDepth 65536 in
theorem w_c6 : (Jvm.Cond.code ({ cls := "java/lang/String", name := "isEmpty", desc := "()Z" } : Jvm.MethodName) jdk_42_method_55_code (1 : Nat) (Option.some Jvm.ClassFile.FieldType.boolean)).before args0 about1 = true := code_word (m := ⟨7, 3⟩) (meth := k7m3) (c := k7c3) (by decide +kernel) rfl rfl rfl (by decide +kernel)
set_option maxRecDepth 65536 in
theorem w_c7 : (Jvm.Cond.code ({ cls := "java/lang/StringUTF16", name := "compress", desc := "([CII)[B" } : Jvm.MethodName) jdk_52_method_16_code (6 : Nat) (Option.some (Jvm.ClassFile.FieldType.array Jvm.ClassFile.FieldType.byte))).before args0 about1 = true := code_word (m := ⟨10, 8⟩) (meth := k10m8) (c := k10c8) (by decide +kernel) rfl rfl rfl (by decide +kernel)
set_option maxRecDepth 65536 in
theorem w_c8 : (Jvm.Cond.code ({ cls := "java/lang/StringUTF16", name := "compress", desc := "([CI[BII)I" } : Jvm.MethodName) jdk_52_method_21_code (7 : Nat) (Option.some Jvm.ClassFile.FieldType.int)).before args0 about1 = true := code_word (m := ⟨10, 9⟩) (meth := k10m9) (c := k10c9) (by decide +kernel) rfl rfl rfl (by decide +kernel)
set_option maxRecDepth 65536 in
theorem w_c9 : (Jvm.Cond.code ({ cls := "java/lang/StringUTF16", name := "coderFromArrayLen", desc := "([BI)B" } : Jvm.MethodName) jdk_52_method_15_code (2 : Nat) (Option.some Jvm.ClassFile.FieldType.byte)).before args0 about1 = true := code_word (m := ⟨10, 7⟩) (meth := k10m7) (c := k10c7) (by decide +kernel) rfl rfl rfl (by decide +kernel)
set_option maxRecDepth 65536 in
theorem w_c10 : (Jvm.Cond.code ({ cls := "com/example/countersign/countersign/request/HeaderIsTokenPinLaw", name := "tchar", desc := "(I)Z" } : Jvm.MethodName) method_3_code (1 : Nat) (Option.some Jvm.ClassFile.FieldType.boolean)).before args0 about1 = true := code_word (m := ⟨1, 2⟩) (meth := k1m2) (c := k1c2) (by decide +kernel) rfl rfl rfl (by decide +kernel)
set_option maxRecDepth 65536 in
theorem w_c11 : (Jvm.Cond.code ({ cls := "java/lang/String", name := "length", desc := "()I" } : Jvm.MethodName) jdk_42_method_54_code (1 : Nat) (Option.some Jvm.ClassFile.FieldType.int)).before args0 about1 = true := code_word (m := ⟨7, 2⟩) (meth := k7m2) (c := k7c2) (by decide +kernel) rfl rfl rfl (by decide +kernel)
set_option maxRecDepth 65536 in
theorem w_c12 : (Jvm.Cond.code ({ cls := "java/lang/String", name := "coder", desc := "()B" } : Jvm.MethodName) jdk_42_method_152_code (1 : Nat) (Option.some Jvm.ClassFile.FieldType.byte)).before args0 about1 = true := code_word (m := ⟨7, 8⟩) (meth := k7m8) (c := k7c8) (by decide +kernel) rfl rfl rfl (by decide +kernel)
set_option maxRecDepth 65536 in
theorem w_c13 : (Jvm.Cond.code ({ cls := "java/lang/String", name := "charAt", desc := "(I)C" } : Jvm.MethodName) jdk_42_method_56_code (2 : Nat) (Option.some Jvm.ClassFile.FieldType.char)).before args0 about1 = true := code_word (m := ⟨7, 4⟩) (meth := k7m4) (c := k7c4) (by decide +kernel) rfl rfl rfl (by decide +kernel)
set_option maxRecDepth 65536 in
theorem w_c14 : (Jvm.Cond.code ({ cls := "java/lang/String", name := "isLatin1", desc := "()Z" } : Jvm.MethodName) jdk_42_method_154_code (1 : Nat) (Option.some Jvm.ClassFile.FieldType.boolean)).before args0 about1 = true := code_word (m := ⟨7, 9⟩) (meth := k7m9) (c := k7c9) (by decide +kernel) rfl rfl rfl (by decide +kernel)
set_option maxRecDepth 65536 in
theorem w_c15 : (Jvm.Cond.code ({ cls := "java/lang/StringLatin1", name := "charAt", desc := "([BI)C" } : Jvm.MethodName) jdk_43_method_2_code (2 : Nat) (Option.some Jvm.ClassFile.FieldType.char)).before args0 about1 = true := code_word (m := ⟨11, 1⟩) (meth := k11m1) (c := k11c1) (by decide +kernel) rfl rfl rfl (by decide +kernel)
set_option maxRecDepth 65536 in
theorem w_c16 : (Jvm.Cond.code ({ cls := "java/lang/String", name := "checkIndex", desc := "(II)V" } : Jvm.MethodName) jdk_42_method_155_code (2 : Nat) (Option.none : Option Jvm.ClassFile.FieldType)).before args0 about1 = true := code_word (m := ⟨7, 10⟩) (meth := k7m10) (c := k7c10) (by decide +kernel) rfl rfl rfl (by decide +kernel)
set_option maxRecDepth 65536 in
theorem w_c17 : (Jvm.Cond.code ({ cls := "jdk/internal/util/Preconditions", name := "checkIndex", desc := "(IILjava/util/function/BiFunction;)I" } : Jvm.MethodName) jdk_41_method_11_code (3 : Nat) (Option.some Jvm.ClassFile.FieldType.int)).before args0 about1 = true := code_word (m := ⟨12, 1⟩) (meth := k12m1) (c := k12c1) (by decide +kernel) rfl rfl rfl (by decide +kernel)
set_option maxRecDepth 65536 in
theorem w_c18 : (Jvm.Cond.code ({ cls := "java/lang/String", name := "indexOf", desc := "(I)I" } : Jvm.MethodName) jdk_42_method_79_code (2 : Nat) (Option.some Jvm.ClassFile.FieldType.int)).before args0 about1 = true := code_word (m := ⟨7, 5⟩) (meth := k7m5) (c := k7c5) (by decide +kernel) rfl rfl rfl (by decide +kernel)
set_option maxRecDepth 65536 in
theorem w_c19 : (Jvm.Cond.code ({ cls := "java/lang/String", name := "indexOf", desc := "(II)I" } : Jvm.MethodName) jdk_42_method_80_code (3 : Nat) (Option.some Jvm.ClassFile.FieldType.int)).before args0 about1 = true := code_word (m := ⟨7, 6⟩) (meth := k7m6) (c := k7c6) (by decide +kernel) rfl rfl rfl (by decide +kernel)
set_option maxRecDepth 65536 in
theorem w_c20 : (Jvm.Cond.code ({ cls := "java/lang/StringLatin1", name := "indexOf", desc := "([BIII)I" } : Jvm.MethodName) jdk_43_method_22_code (4 : Nat) (Option.some Jvm.ClassFile.FieldType.int)).before args0 about1 = true := code_word (m := ⟨11, 3⟩) (meth := k11m3) (c := k11c3) (by decide +kernel) rfl rfl rfl (by decide +kernel)
set_option maxRecDepth 65536 in
theorem w_c21 : (Jvm.Cond.code ({ cls := "java/lang/StringLatin1", name := "canEncode", desc := "(I)Z" } : Jvm.MethodName) jdk_43_method_4_code (1 : Nat) (Option.some Jvm.ClassFile.FieldType.boolean)).before args0 about1 = true := code_word (m := ⟨11, 2⟩) (meth := k11m2) (c := k11c2) (by decide +kernel) rfl rfl rfl (by decide +kernel)
set_option maxRecDepth 65536 in
theorem w_c22 : (Jvm.Cond.code ({ cls := "java/lang/Math", name := "max", desc := "(II)I" } : Jvm.MethodName) jdk_29_method_65_code (2 : Nat) (Option.some Jvm.ClassFile.FieldType.int)).before args0 about1 = true := code_word (m := ⟨13, 1⟩) (meth := k13m1) (c := k13c1) (by decide +kernel) rfl rfl rfl (by decide +kernel)
set_option maxRecDepth 65536 in
theorem w_c23 : (Jvm.Cond.code ({ cls := "java/lang/Math", name := "min", desc := "(II)I" } : Jvm.MethodName) jdk_29_method_69_code (2 : Nat) (Option.some Jvm.ClassFile.FieldType.int)).before args0 about1 = true := code_word (m := ⟨13, 2⟩) (meth := k13m2) (c := k13c2) (by decide +kernel) rfl rfl rfl (by decide +kernel)
set_option maxRecDepth 65536 in
theorem w_c24 : (Jvm.Cond.code ({ cls := "java/lang/StringLatin1", name := "indexOfChar", desc := "([BIII)I" } : Jvm.MethodName) jdk_43_method_23_code (6 : Nat) (Option.some Jvm.ClassFile.FieldType.int)).before args0 about1 = true := code_word (m := ⟨11, 4⟩) (meth := k11m4) (c := k11c4) (by decide +kernel) rfl rfl rfl (by decide +kernel)
set_option maxRecDepth 65536 in
theorem w_c25 : (Jvm.Cond.code ({ cls := "com/example/countersign/countersign/request/HeaderIsTokenPinLaw", name := "delimiter", desc := "(I)Z" } : Jvm.MethodName) method_2_code (1 : Nat) (Option.some Jvm.ClassFile.FieldType.boolean)).before args0 about1 = true := code_word (m := ⟨1, 1⟩) (meth := k1m1) (c := k1c1) (by decide +kernel) rfl rfl rfl (by decide +kernel)
set_option maxRecDepth 65536 in
theorem w_c26 : (Jvm.Cond.code ({ cls := "java/lang/StringUTF16", name := "toBytes", desc := "([CII)[B" } : Jvm.MethodName) jdk_52_method_14_code (5 : Nat) (Option.some (Jvm.ClassFile.FieldType.array Jvm.ClassFile.FieldType.byte))).before args0 about1 = true := code_word (m := ⟨10, 6⟩) (meth := k10m6) (c := k10c6) (by decide +kernel) rfl rfl rfl (by decide +kernel)
set_option maxRecDepth 65536 in
theorem w_c27 : (Jvm.Cond.code ({ cls := "java/lang/StringUTF16", name := "newBytesFor", desc := "(I)[B" } : Jvm.MethodName) jdk_52_method_2_code (1 : Nat) (Option.some (Jvm.ClassFile.FieldType.array Jvm.ClassFile.FieldType.byte))).before args0 about1 = true := code_word (m := ⟨10, 1⟩) (meth := k10m1) (c := k10c1) (by decide +kernel) rfl rfl rfl (by decide +kernel)
set_option maxRecDepth 65536 in
theorem w_c28 : (Jvm.Cond.code ({ cls := "java/lang/StringUTF16", name := "newBytesLength", desc := "(I)I" } : Jvm.MethodName) jdk_52_method_3_code (1 : Nat) (Option.some Jvm.ClassFile.FieldType.int)).before args0 about1 = true := code_word (m := ⟨10, 2⟩) (meth := k10m2) (c := k10c2) (by decide +kernel) rfl rfl rfl (by decide +kernel)
set_option maxRecDepth 65536 in
theorem w_c29 : (Jvm.Cond.code ({ cls := "java/lang/StringUTF16", name := "putChar", desc := "([BII)V" } : Jvm.MethodName) jdk_52_method_4_code (3 : Nat) (Option.none : Option Jvm.ClassFile.FieldType)).before args0 about1 = true := code_word (m := ⟨10, 3⟩) (meth := k10m3) (c := k10c3) (by decide +kernel) rfl rfl rfl (by decide +kernel)
set_option maxRecDepth 65536 in
theorem w_c30 : (Jvm.Cond.code ({ cls := "java/lang/StringUTF16", name := "getChar", desc := "([BI)C" } : Jvm.MethodName) jdk_52_method_5_code (2 : Nat) (Option.some Jvm.ClassFile.FieldType.char)).before args0 about1 = true := code_word (m := ⟨10, 4⟩) (meth := k10m4) (c := k10c4) (by decide +kernel) rfl rfl rfl (by decide +kernel)
set_option maxRecDepth 65536 in
theorem w_c31 : (Jvm.Cond.code ({ cls := "java/lang/StringUTF16", name := "charAt", desc := "([BI)C" } : Jvm.MethodName) jdk_52_method_83_code (2 : Nat) (Option.some Jvm.ClassFile.FieldType.char)).before args0 about1 = true := code_word (m := ⟨10, 10⟩) (meth := k10m10) (c := k10c10) (by decide +kernel) rfl rfl rfl (by decide +kernel)
set_option maxRecDepth 65536 in
theorem w_c32 : (Jvm.Cond.code ({ cls := "java/lang/StringUTF16", name := "checkIndex", desc := "(I[B)V" } : Jvm.MethodName) jdk_52_method_91_code (2 : Nat) (Option.none : Option Jvm.ClassFile.FieldType)).before args0 about1 = true := code_word (m := ⟨10, 11⟩) (meth := k10m11) (c := k10c11) (by decide +kernel) rfl rfl rfl (by decide +kernel)
set_option maxRecDepth 65536 in
theorem w_c33 : (Jvm.Cond.code ({ cls := "java/lang/StringUTF16", name := "length", desc := "([B)I" } : Jvm.MethodName) jdk_52_method_6_code (1 : Nat) (Option.some Jvm.ClassFile.FieldType.int)).before args0 about1 = true := code_word (m := ⟨10, 5⟩) (meth := k10m5) (c := k10c5) (by decide +kernel) rfl rfl rfl (by decide +kernel)
def codes1 : List Jvm.Cond := [Jvm.Cond.code x code maxLocals ret, Jvm.Cond.code ({ cls := "com/example/countersign/countersign/request/HeaderIsTokenPinLaw", name := "make", desc := "(ICCCC)Ljava/lang/String;" } : Jvm.MethodName) method_4_code (6 : Nat) (Option.some (Jvm.ClassFile.FieldType.object "java/lang/String")), Jvm.Cond.code ({ cls := "java/lang/String", name := "<init>", desc := "([C)V" } : Jvm.MethodName) jdk_42_method_3_code (2 : Nat) (Option.none : Option Jvm.ClassFile.FieldType), Jvm.Cond.code ({ cls := "java/lang/String", name := "<init>", desc := "([CIILjava/lang/Void;)V" } : Jvm.MethodName) jdk_42_method_149_code (6 : Nat) (Option.none : Option Jvm.ClassFile.FieldType), Jvm.Cond.code ({ cls := "java/lang/Object", name := "<init>", desc := "()V" } : Jvm.MethodName) object_method_1_code (1 : Nat) (Option.none : Option Jvm.ClassFile.FieldType), Jvm.Cond.code ({ cls := "com/example/countersign/countersign/request/Header", name := "isToken", desc := "(Ljava/lang/String;)Z" } : Jvm.MethodName) prog_28_method_5_code (4 : Nat) (Option.some Jvm.ClassFile.FieldType.boolean), Jvm.Cond.code ({ cls := "java/lang/String", name := "isEmpty", desc := "()Z" } : Jvm.MethodName) jdk_42_method_55_code (1 : Nat) (Option.some Jvm.ClassFile.FieldType.boolean), Jvm.Cond.code ({ cls := "java/lang/StringUTF16", name := "compress", desc := "([CII)[B" } : Jvm.MethodName) jdk_52_method_16_code (6 : Nat) (Option.some (Jvm.ClassFile.FieldType.array Jvm.ClassFile.FieldType.byte)), Jvm.Cond.code ({ cls := "java/lang/StringUTF16", name := "compress", desc := "([CI[BII)I" } : Jvm.MethodName) jdk_52_method_21_code (7 : Nat) (Option.some Jvm.ClassFile.FieldType.int), Jvm.Cond.code ({ cls := "java/lang/StringUTF16", name := "coderFromArrayLen", desc := "([BI)B" } : Jvm.MethodName) jdk_52_method_15_code (2 : Nat) (Option.some Jvm.ClassFile.FieldType.byte), Jvm.Cond.code ({ cls := "com/example/countersign/countersign/request/HeaderIsTokenPinLaw", name := "tchar", desc := "(I)Z" } : Jvm.MethodName) method_3_code (1 : Nat) (Option.some Jvm.ClassFile.FieldType.boolean), Jvm.Cond.code ({ cls := "java/lang/String", name := "length", desc := "()I" } : Jvm.MethodName) jdk_42_method_54_code (1 : Nat) (Option.some Jvm.ClassFile.FieldType.int), Jvm.Cond.code ({ cls := "java/lang/String", name := "coder", desc := "()B" } : Jvm.MethodName) jdk_42_method_152_code (1 : Nat) (Option.some Jvm.ClassFile.FieldType.byte), Jvm.Cond.code ({ cls := "java/lang/String", name := "charAt", desc := "(I)C" } : Jvm.MethodName) jdk_42_method_56_code (2 : Nat) (Option.some Jvm.ClassFile.FieldType.char), Jvm.Cond.code ({ cls := "java/lang/String", name := "isLatin1", desc := "()Z" } : Jvm.MethodName) jdk_42_method_154_code (1 : Nat) (Option.some Jvm.ClassFile.FieldType.boolean), Jvm.Cond.code ({ cls := "java/lang/StringLatin1", name := "charAt", desc := "([BI)C" } : Jvm.MethodName) jdk_43_method_2_code (2 : Nat) (Option.some Jvm.ClassFile.FieldType.char), Jvm.Cond.code ({ cls := "java/lang/String", name := "checkIndex", desc := "(II)V" } : Jvm.MethodName) jdk_42_method_155_code (2 : Nat) (Option.none : Option Jvm.ClassFile.FieldType), Jvm.Cond.code ({ cls := "jdk/internal/util/Preconditions", name := "checkIndex", desc := "(IILjava/util/function/BiFunction;)I" } : Jvm.MethodName) jdk_41_method_11_code (3 : Nat) (Option.some Jvm.ClassFile.FieldType.int), Jvm.Cond.code ({ cls := "java/lang/String", name := "indexOf", desc := "(I)I" } : Jvm.MethodName) jdk_42_method_79_code (2 : Nat) (Option.some Jvm.ClassFile.FieldType.int), Jvm.Cond.code ({ cls := "java/lang/String", name := "indexOf", desc := "(II)I" } : Jvm.MethodName) jdk_42_method_80_code (3 : Nat) (Option.some Jvm.ClassFile.FieldType.int), Jvm.Cond.code ({ cls := "java/lang/StringLatin1", name := "indexOf", desc := "([BIII)I" } : Jvm.MethodName) jdk_43_method_22_code (4 : Nat) (Option.some Jvm.ClassFile.FieldType.int), Jvm.Cond.code ({ cls := "java/lang/StringLatin1", name := "canEncode", desc := "(I)Z" } : Jvm.MethodName) jdk_43_method_4_code (1 : Nat) (Option.some Jvm.ClassFile.FieldType.boolean), Jvm.Cond.code ({ cls := "java/lang/Math", name := "max", desc := "(II)I" } : Jvm.MethodName) jdk_29_method_65_code (2 : Nat) (Option.some Jvm.ClassFile.FieldType.int), Jvm.Cond.code ({ cls := "java/lang/Math", name := "min", desc := "(II)I" } : Jvm.MethodName) jdk_29_method_69_code (2 : Nat) (Option.some Jvm.ClassFile.FieldType.int), Jvm.Cond.code ({ cls := "java/lang/StringLatin1", name := "indexOfChar", desc := "([BIII)I" } : Jvm.MethodName) jdk_43_method_23_code (6 : Nat) (Option.some Jvm.ClassFile.FieldType.int), Jvm.Cond.code ({ cls := "com/example/countersign/countersign/request/HeaderIsTokenPinLaw", name := "delimiter", desc := "(I)Z" } : Jvm.MethodName) method_2_code (1 : Nat) (Option.some Jvm.ClassFile.FieldType.boolean), Jvm.Cond.code ({ cls := "java/lang/StringUTF16", name := "toBytes", desc := "([CII)[B" } : Jvm.MethodName) jdk_52_method_14_code (5 : Nat) (Option.some (Jvm.ClassFile.FieldType.array Jvm.ClassFile.FieldType.byte)), Jvm.Cond.code ({ cls := "java/lang/StringUTF16", name := "newBytesFor", desc := "(I)[B" } : Jvm.MethodName) jdk_52_method_2_code (1 : Nat) (Option.some (Jvm.ClassFile.FieldType.array Jvm.ClassFile.FieldType.byte)), Jvm.Cond.code ({ cls := "java/lang/StringUTF16", name := "newBytesLength", desc := "(I)I" } : Jvm.MethodName) jdk_52_method_3_code (1 : Nat) (Option.some Jvm.ClassFile.FieldType.int), Jvm.Cond.code ({ cls := "java/lang/StringUTF16", name := "putChar", desc := "([BII)V" } : Jvm.MethodName) jdk_52_method_4_code (3 : Nat) (Option.none : Option Jvm.ClassFile.FieldType), Jvm.Cond.code ({ cls := "java/lang/StringUTF16", name := "getChar", desc := "([BI)C" } : Jvm.MethodName) jdk_52_method_5_code (2 : Nat) (Option.some Jvm.ClassFile.FieldType.char), Jvm.Cond.code ({ cls := "java/lang/StringUTF16", name := "charAt", desc := "([BI)C" } : Jvm.MethodName) jdk_52_method_83_code (2 : Nat) (Option.some Jvm.ClassFile.FieldType.char), Jvm.Cond.code ({ cls := "java/lang/StringUTF16", name := "checkIndex", desc := "(I[B)V" } : Jvm.MethodName) jdk_52_method_91_code (2 : Nat) (Option.none : Option Jvm.ClassFile.FieldType), Jvm.Cond.code ({ cls := "java/lang/StringUTF16", name := "length", desc := "([B)I" } : Jvm.MethodName) jdk_52_method_6_code (1 : Nat) (Option.some Jvm.ClassFile.FieldType.int)]
set_option maxRecDepth 65536 in
theorem codes_eq : words1.filter isCode = codes1 := rfl
theorem w_codes : ∀ c ∈ words1.filter isCode, c.before args0 about1 = true := by
  rw [codes_eq]
  intro c hc
  simp only [codes1, List.mem_cons, List.not_mem_nil, or_false] at hc
  rcases hc with rfl | rfl | rfl | rfl | rfl | rfl | rfl | rfl | rfl | rfl | rfl | rfl | rfl | rfl | rfl | rfl | rfl | rfl | rfl | rfl | rfl | rfl | rfl | rfl | rfl | rfl | rfl | rfl | rfl | rfl | rfl | rfl | rfl | rfl
  · exact w_c0
  · exact w_c1
  · exact w_c2
  · exact w_c3
  · exact w_c4
  · exact w_c5
  · exact w_c6
  · exact w_c7
  · exact w_c8
  · exact w_c9
  · exact w_c10
  · exact w_c11
  · exact w_c12
  · exact w_c13
  · exact w_c14
  · exact w_c15
  · exact w_c16
  · exact w_c17
  · exact w_c18
  · exact w_c19
  · exact w_c20
  · exact w_c21
  · exact w_c22
  · exact w_c23
  · exact w_c24
  · exact w_c25
  · exact w_c26
  · exact w_c27
  · exact w_c28
  · exact w_c29
  · exact w_c30
  · exact w_c31
  · exact w_c32
  · exact w_c33
set_option maxRecDepth 65536 in
theorem w_t1 : (words1.take 24).all (fun c => isCode c || c.before args0 about1) = true := by decide +kernel
set_option maxRecDepth 65536 in
theorem w_t2 : ((words1.drop 24).take 24).all (fun c => isCode c || c.before args0 about1) = true := by decide +kernel
set_option maxRecDepth 65536 in
theorem w_t3 : (((words1.drop 24).drop 24).take 24).all (fun c => isCode c || c.before args0 about1) = true := by decide +kernel
set_option maxRecDepth 65536 in
theorem w_t4 : ((((words1.drop 24).drop 24).drop 24).take 24).all (fun c => isCode c || c.before args0 about1) = true := by decide +kernel
set_option maxRecDepth 65536 in
theorem w_t5 : (((((words1.drop 24).drop 24).drop 24).drop 24).take 24).all (fun c => isCode c || c.before args0 about1) = true := by decide +kernel
set_option maxRecDepth 65536 in
theorem w_t6 : (((((words1.drop 24).drop 24).drop 24).drop 24).drop 24).all (fun c => isCode c || c.before args0 about1) = true := by decide +kernel
theorem w_tables : (allAtoms (Jvm.Cond.code x code maxLocals ret :: tables_1)).before args0 about1 = true := by
  rw [allAtoms_all]
  show words1.all (fun c => c.before args0 about1) = true
  refine all_split ?_ w_codes
  rw [← List.take_append_drop 24 words1, List.all_append, w_t1, ← List.take_append_drop 24 (words1.drop 24), List.all_append, w_t2, ← List.take_append_drop 24 ((words1.drop 24).drop 24), List.all_append, w_t3, ← List.take_append_drop 24 (((words1.drop 24).drop 24).drop 24), List.all_append, w_t4, ← List.take_append_drop 24 ((((words1.drop 24).drop 24).drop 24).drop 24), List.all_append, w_t5, w_t6]
  rfl
set_option maxRecDepth 65536 in
theorem w_rest : rest_1_c.before args0 about1 = true := by decide +kernel
set_option maxRecDepth 65536 in
theorem w_case : (Jvm.Cond.and given_1 narrow_1).before args0 about1 = true := by decide +kernel
set_option maxRecDepth 65536 in
theorem w_consts : constsHeld consts_1 about1 := Jvm.Lit.constsHeldB_iff.mp (by decide +kernel)
theorem w_applies : (headSpec (Jvm.Cond.code x code maxLocals ret :: tables_1) room_1).applies x e0.platform about1 = true :=
  (Spec.applies_iff w_frames).mpr ⟨w_running, w_runnable, w_alone, w_named, w_hears, w_ripe, w_room, w_tables⟩
theorem atStart : AtStart classFile x code maxLocals ret World_1 tables_1 room_1 Calls_1 rest_1 Pre_1 launch0 p0 e0 about1 theMethod args0 below0 :=
  ⟨lists_1, trivial, launch0.admits_env _ _ _, launch0.least_env, fairChoices_fair.cas, fairChoices_fair.clock, w_frames, w_args, w_heap, w_applies, ⟨w_consts, trivial⟩, w_rest, w_case⟩
end start1
theorem witness_1 : WitnessClaimed_1 := ⟨start1.p0, start1.e0, start1.about1, start1.theMethod, start1.args0, start1.below0, start1.atStart⟩
end Jvm.Pilot.@@N@@
