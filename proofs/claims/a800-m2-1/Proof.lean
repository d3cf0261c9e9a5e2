import JvmDerived
import JvmDerived.Pilot.@@N@@Statement
import JvmDerived.Pilot.@@N@@Code
set_option linter.unusedVariables false
set_option linter.unusedSimpArgs false
namespace Jvm.Ow
open Sem ClassFile Op Lib Bundle Jvm.Stand Jvm.Free Jvm.LawKit Jvm.RoadKit
abbrev Po : Type := Option Value → Heap → List Addr → Prop
section Defs
variable (p : Program) (l : Launch) (e : Env) (R : Room) (s : State) (m : MethodId) (args : Array Value) (below : List Frame) (meth : Method) (c : Code) (Z : State) (EL : List (String × Nat)) (n0 : Nat) (own : String)
def SafeL (vm : Vm) (h : Heap) (S : List Addr) : Prop := ∀ x ∈ S, x < h.size ∧ Safe Z EL vm h x
def Don (Q : Po) (U : State) (o : Outcome) (U' : State) (rm : Room) : Prop :=
  ∃ v L S', o = .returned v ∧ (Q v U'.heap S' ∧ Fr n0 L ∧ Old Z n0 U'.heap ∧ SafeL Z EL U'.vm U'.heap S') ∧ CHr Z EL U.vm U.heap U'.vm U'.heap ∧ ReturnedEndW U o U' L rm.cells rm.slots
def Con (y : MethodName) (bytes : ByteArray) (maxL : Nat) (ret : Option FieldType) (ws : List Jvm.Cond) (rm : Room) (as' : Array Value) (S : List Addr) (h : Heap) (Q : Po) : Prop :=
  MetFree l y (head1 (Jvm.Cond.code y bytes maxL ret :: ws) rm) (fun a U => a = as' ∧ Z.Warmed39 U.vm ∧ U.heap = h ∧ CHv Z EL U.vm h ∧ SafeL Z EL U.vm h S) (fun _ _ _ _ _ => True) (fun _ U o U' => Don Z EL n0 Q U o U' rm)
def Sit (S : List Addr) (h : Heap) (k n : Nat) (T : State) : Prop :=
  ∃ locs vm0 k0 k' n', k' ≤ k ∧ n' ≤ n ∧ Stand p l e R (s.setVm vm0) m args below meth c T locs k' n' ∧ T.heap = h ∧ s.Since vm0 k0 ∧ k0 ≤ h.size ∧ Z.Warmed39 vm0 ∧ vm0.findClass own = some m.cls ∧ Fr n0 locs ∧ Old Z n0 h ∧ CHr Z EL s.vm s.heap vm0 h ∧ SafeL Z EL vm0 h S
def Fnl (Q : Po) (t : State) : Prop := ∃ s₂ o, Steps p.tables e below t s₂ ∧ s₂.status = .running ∧ Ended s₂ below o ∧ Don Z EL n0 Q s o s₂ R
def Go (Q : Po) (S : List Addr) (h : Heap) (k n : Nat) (pc : Nat) (Ls : Array Slot) (st : List Value) : Prop :=
  ∀ T, Sit p l e R s m args below meth c Z EL n0 own S h k n T → Fnl p e R s below Z EL n0 Q (T.setTop (mkF m pc Ls st))
def Bdy (a0 : Array Value) (bytes : ByteArray) (maxL : Nat) (ret : Option FieldType) (nm : String) : Prop :=
  p.tables.exec = Jvm.exec ∧ c.code = bytes ∧ c.maxLocals = maxL ∧ meth.sig.returnType = ret ∧ meth.name = nm ∧ meth.locks = false ∧ EW Z a0 EL ∧ (∀ w ∈ Bundle.stringAtoms, w.before a0 Z = true)
end Defs
section Rules
variable {p : Program} {l : Launch} {e : Env} {R : Room} {s : State} {m : MethodId} {args : Array Value} {below : List Frame} {meth : Method} {c : Code} {Z : State} {EL : List (String × Nat)} {n0 : Nat} {own : String} {a0 : Array Value} {bytes : ByteArray} {maxL : Nat} {ret : Option FieldType} {nm : String} {Q : Po} {S S' : List Addr} {h h' : Heap} {k n k' n' pc pc' : Nat} {Ls Ls' : Array Slot} {st st' rest : List Value}
theorem SafeL.nil {vm : Vm} : SafeL Z EL vm h [] := fun _ q => nomatch q
theorem SafeL.chr {vm vm1 : Vm} (A : CHr Z EL vm h vm1 h') (q : SafeL Z EL vm h S) : SafeL Z EL vm1 h' S := fun x hx => ⟨Nat.lt_of_lt_of_le (q x hx).1 A.2.1, A.safe (q x hx).1 (q x hx).2⟩
theorem SafeL.sub {vm : Vm} (q : SafeL Z EL vm h S) (hs : ∀ x ∈ S', x ∈ S) : SafeL Z EL vm h S' := fun x hx => q x (hs x hx)
theorem SafeL.app {vm : Vm} (q : SafeL Z EL vm h S) (q' : SafeL Z EL vm h S') : SafeL Z EL vm h (S ++ S') := fun x hx => (List.mem_append.mp hx).elim (q x) (q' x)
theorem SafeL.cons {vm : Vm} {a : Addr} (ha : a < h.size ∧ Safe Z EL vm h a) (q : SafeL Z EL vm h S) : SafeL Z EL vm h (a :: S) := fun x hx => (List.mem_cons.mp hx).elim (fun z => z ▸ ha) (q x)
theorem keepE (E : Ext h h') : Keep h h' [] := (Keep.refl h []).ext E
theorem nin0 {x : Nat} : x ∉ ([] : List Nat) := fun q => nomatch q
theorem ninS {x y : Nat} {L : List Nat} (q : x ≠ y) (r : x ∉ L) : x ∉ y :: L := by simp [q, r]
theorem allI0 {P : Int32 → Prop} : ∀ x ∈ ([] : List Int32), P x := fun _ q => nomatch q
theorem allI {P : Int32 → Prop} {y : Int32} {L : List Int32} (q : P y) (r : ∀ x ∈ L, P x) : ∀ x ∈ y :: L, P x := List.forall_mem_cons.mpr ⟨q, r⟩
theorem old_le (O : Old Z n0 h) : n0 ≤ h.size := O.1 ▸ O.2.1
theorem Go.mono (hk : k ≤ k') (hn : n ≤ n') (hs : ∀ x ∈ S', x ∈ S) (hr : Go p l e R s m args below meth c Z EL n0 own Q S' h k' n' pc Ls st) : Go p l e R s m args below meth c Z EL n0 own Q S h k n pc Ls st := by
  intro T ⟨locs, vm0, k0, k1, n1, q1, q2, X, eT, hS, hk0, hZ, hown, N, O, C, SL⟩
  exact hr T ⟨locs, vm0, k0, k1, n1, Nat.le_trans q1 hk, Nat.le_trans q2 hn, X, eT, hS, hk0, hZ, hown, N, O, C, SL.sub hs⟩
theorem Go.norm (hs : ∀ x ∈ S', x ∈ S) (hst : st = st') (hr : Go p l e R s m args below meth c Z EL n0 own Q S' h k n pc Ls st') : Go p l e R s m args below meth c Z EL n0 own Q S h k n pc Ls st := by
  subst hst
  exact Go.mono (Nat.le_refl _) (Nat.le_refl _) hs hr
theorem Go.nr (hr : Go p l e R s m args below meth c Z EL n0 own Q S' h k n pc Ls st') (hst : st = st' := by rfl) : Go p l e R s m args below meth c Z EL n0 own Q (S ++ S') h k n pc Ls st := Go.norm (fun _ q => List.mem_append_right _ q) hst hr
/-- in a walk the old heap is there -/
theorem Go.old (hr : Old Z n0 h → Go p l e R s m args below meth c Z EL n0 own Q S h k n pc Ls st) : Go p l e R s m args below meth c Z EL n0 own Q S h k n pc Ls st := by
  intro T A
  have A' := A
  obtain ⟨locs, vm0, k0, k1, n1, q1, q2, X, eT, hS, hk0, hZ, hown, N, O, C, SL⟩ := A'
  exact hr O T A
/-- a join: the rest from pc1 is walked once -/
theorem Go.join {α : Type} {pc1 : Nat} (F : α → Array Slot) (D : α → List Value) (hJ : ∀ b, Go p l e R s m args below meth c Z EL n0 own Q S h k n pc1 (F b) (D b)) (hr : (∀ b, Go p l e R s m args below meth c Z EL n0 own Q S h k n pc1 (F b) (D b)) → Go p l e R s m args below meth c Z EL n0 own Q S h k n pc Ls st) : Go p l e R s m args below meth c Z EL n0 own Q S h k n pc Ls st := hr hJ
theorem Con.enter {y : MethodName} {ws : List Jvm.Cond} {rm : Room} {as' : Array Value} (hpl : plainFor y = true) (hO : Old Z n0 h) (hEW : EW Z a0 EL) (hwS : ∀ w ∈ Bundle.stringAtoms, w.before a0 Z = true)
    (body : ∀ (p : Program) (e : Env) (s : State) (m : MethodId) (below : List Frame) (meth : Method) (c : Code), Bdy p meth c Z EL a0 bytes maxL ret y.name → Go p l e rm s m as' below meth c Z EL n0 y.cls Q S h 0 0 0 Ls [])
    (hef : ∀ m : MethodId, entryFrame m as' maxL = mkF m 0 Ls [] := by intro m; first | rfl | (simp [entryFrame, mkF, argsToLocals, Value.category]; done)) :
    Con l Z EL n0 y bytes maxL ret ws rm as' S h Q := by
  refine MetFree.of_bodySF hpl hisR ?_
  intro p e s m args below meth c s₁ Bd hml0 hP hK
  obtain ⟨rfl, hZ, rfl, hC, hS⟩ := hP
  have X0 : Stand p l e rm s m args below meth c s₁ [] 0 0 := Stand.of_body Bd
  have hown : s.vm.findClass y.cls = some m.cls := findClass_of_methodNamed Bd.named
  have hnm := (name_of_methodNamed Bd.named Bd.method).1
  have e0 : s₁.heap = s.heap := by rw [Bd.state]; rfl
  rw [hef m]
  exact body p e s m below meth c ⟨Bd.exec, Bd.bytes, hml0, Bd.returns, hnm, Bd.notSynchronized, hEW, hwS⟩ s₁ ⟨[], s.vm, s.heap.size, 0, 0, Nat.le_refl _, Nat.le_refl _, X0, e0, (State.WarmedH.refl s).since _, Nat.le_refl _, hZ, hown, Fr.nil _, hO, CHr.refl hC, hS⟩
theorem plain (hr : Go p l e R s m args below meth c Z EL n0 own Q S h k n pc' Ls' st')
    (stp : ∀ T, At T m c below → ∀ t, Steps p.tables e below (T.setTop (mkF m pc' Ls' st')) t → Steps p.tables e below (T.setTop (mkF m pc Ls st)) t) : Go p l e R s m args below meth c Z EL n0 own Q S h k n pc Ls st := by
  intro T A
  have A' := A
  obtain ⟨locs, vm0, k0, k1, n1, q1, q2, X, r⟩ := A'
  obtain ⟨s2, o, q, r2⟩ := hr T A
  exact ⟨s2, o, stp T X.here _ q, r2⟩
/-- a step that may warm the tables, the heap as it was -/
theorem warm (hr : Go p l e R s m args below meth c Z EL n0 own Q S h k n pc' Ls' st')
    (stp : ∀ T vm0 locs k1 n1, Stand p l e R (s.setVm vm0) m args below meth c T locs k1 n1 → T.heap = h → Z.Warmed39 (s.setVm vm0).vm → (s.setVm vm0).vm.findClass own = some m.cls → Old Z n0 h →
      ∃ T', Stand p l e R (s.setVm vm0) m args below meth c T' locs k1 n1 ∧ T'.heap = h ∧ ∀ t, Steps p.tables e below (T'.setTop (mkF m pc' Ls' st')) t → Steps p.tables e below (T.setTop (mkF m pc Ls st)) t) : Go p l e R s m args below meth c Z EL n0 own Q S h k n pc Ls st := by
  intro T ⟨locs, vm0, k0, k1, n1, q1, q2, X, eT, hS, hk0, hZ, hown, N, O, C, SL⟩
  obtain ⟨T', X', e', sp⟩ := stp T vm0 locs k1 n1 X eT hZ hown O
  obtain ⟨s2, o, q, r2⟩ := hr T' ⟨locs, vm0, k0, k1, n1, q1, q2, X', e', hS, hk0, hZ, hown, N, O, C, SL⟩
  exact ⟨s2, o, sp _ q, r2⟩
/-- a step that makes one cell -/
theorem made {dc dn : Nat} {nn : Nat} {P : Heap → Prop} (hk : k + 1 ≤ k') (hn : n + nn ≤ n')
    (stp : ∀ T vm0 locs k1 n1, k1 ≤ k → n1 ≤ n → Stand p l e R (s.setVm vm0) m args below meth c T locs k1 n1 → T.heap = h → Z.Warmed39 (s.setVm vm0).vm → (s.setVm vm0).vm.findClass own = some m.cls →
      ∃ T' h', Stand p l e R (s.setVm vm0) m args below meth c T' locs (k1 + 1) (n1 + nn) ∧ T'.heap = h' ∧ Ext h h' ∧ h.size < h'.size ∧ P h' ∧ ∀ t, Steps p.tables e below (T'.setTop (mkF m pc' Ls' st')) t → Steps p.tables e below (T.setTop (mkF m pc Ls st)) t)
    (hr : ∀ h', Ext h h' → P h' → n0 ≤ h.size → Go p l e R s m args below meth c Z EL n0 own Q (h.size :: S) h' k' n' pc' Ls' st') : Go p l e R s m args below meth c Z EL n0 own Q S h k n pc Ls st := by
  intro T ⟨locs, vm0, k0, k1, n1, q1, q2, X, eT, hS, hk0, hZ, hown, N, O, C, SL⟩
  obtain ⟨T', h', X', e', E, lt, hP, sp⟩ := stp T vm0 locs k1 n1 q1 q2 X eT hZ hown
  have A := CHr.ext (EL := EL) (vm := vm0) E C.1
  have sf : Safe Z EL vm0 h h.size := Safe.new (Nat.le_refl _)
  obtain ⟨s2, o, q, r2⟩ := hr h' E hP (old_le O) T' ⟨locs, vm0, k0, k1 + 1, n1 + nn, by omega, by omega, X', e', hS, Nat.le_trans hk0 E.1, hZ, hown, N, O.ext E, C.trans A, (SL.chr A).cons ⟨lt, sf.ext E C.1⟩⟩
  exact ⟨s2, o, sp _ q, r2⟩
/-- a step that writes one place of one cell -/
theorem wrote {a : Addr} {sl : Nat} {v : Value} (ha : n0 ≤ a) (hsafe : ∀ vm0, Z.Warmed39 vm0 → SafeL Z EL vm0 h S → Safe Z EL vm0 h a)
    (stp : ∀ T vm0 locs k1 n1, Stand p l e R (s.setVm vm0) m args below meth c T locs k1 n1 → T.heap = h → Z.Warmed39 (s.setVm vm0).vm → (s.setVm vm0).vm.findClass own = some m.cls →
      ∃ T' h', Stand p l e R (s.setVm vm0) m args below meth c T' (locs ++ [⟨a, sl⟩]) k1 n1 ∧ T'.heap = h' ∧ Wr h h' a sl v ∧ ∀ t, Steps p.tables e below (T'.setTop (mkF m pc' Ls' st')) t → Steps p.tables e below (T.setTop (mkF m pc Ls st)) t)
    (hr : ∀ h', Wr h h' a sl v → Go p l e R s m args below meth c Z EL n0 own Q S h' k n pc' Ls' st') : Go p l e R s m args below meth c Z EL n0 own Q S h k n pc Ls st := by
  intro T ⟨locs, vm0, k0, k1, n1, q1, q2, X, eT, hS, hk0, hZ, hown, N, O, C, SL⟩
  obtain ⟨T', h', X', e', W, sp⟩ := stp T vm0 locs k1 n1 X eT hZ hown
  have A := CHr.wr (EL := EL) (vm := vm0) W (hsafe vm0 hZ SL) C.1
  obtain ⟨s2, o, q, r2⟩ := hr h' W T' ⟨_, vm0, k0, k1, n1, q1, q2, X', e', hS, by rw [W.size]; exact hk0, hZ, hown, Fr.snoc X' N ha, O.wr W ha, C.trans A, SL.chr A⟩
  exact ⟨s2, o, sp _ q, r2⟩
/-- a callee by its contract -/
theorem Con.back {y : MethodName} {bytes' : ByteArray} {maxL' : Nat} {ret' : Option FieldType} {rm : Room} {as' : Array Value} {Q' : Po} {len W : Nat} {vm0 : Vm} (hM : Con l Z EL n0 y bytes' maxL' ret' [] rm as' S h Q')
    (hZ : Z.Warmed39 vm0) (wc : (Jvm.Cond.code y bytes' maxL' ret').before a0 Z = true) (wz : (Jvm.Cond.initialized y.cls).before a0 Z = true) (hf : rm.frames + 1 ≤ R.frames) (hl : W + (maxL' + 11) + rm.locals ≤ R.locals) (hEL : EW Z a0 EL) (H : CHv Z EL vm0 h) (hSL : SafeL Z EL vm0 h S) :
    BackS l R p e below (s.setVm vm0) args y len W (fun A a => a = as' ∧ A.U.heap = h ∧ A.cells + rm.cells ≤ R.cells ∧ A.slots + rm.slots ≤ R.slots)
      (fun A _ v B => ∃ L S', (Q' v B.U.heap S' ∧ Fr n0 L ∧ Old Z n0 B.U.heap ∧ SafeL Z EL B.U.vm B.U.heap S') ∧ B.locs = A.locs ++ L ∧ B.cells = A.cells + rm.cells ∧ B.slots = A.slots + rm.slots ∧ CHr Z EL vm0 h B.U.vm B.U.heap) := by
  have loc : ∀ {m : MethodId} {meth : Method} {c : Code} {A : Pt}, Stand p l e R (s.setVm vm0) m args below meth c A.U A.locs A.cells A.slots → Z.Warmed39 A.U.vm ∧ CHr Z EL vm0 h A.U.vm h := fun Y => ⟨wtrans (s := s.setVm vm0) hZ Y.warmed, CHv.at Y hZ hEL H⟩
  apply BackS.of_freeW (bytes := bytes') (maxL := maxL') (ret := ret') (E := fun _ U o U' L k n => ∃ v S', (o, k, n) = (.returned v, rm.cells, rm.slots) ∧ CHr Z EL U.vm U.heap U'.vm U'.heap ∧ Q' v U'.heap S' ∧ Fr n0 L ∧ Old Z n0 U'.heap ∧ SafeL Z EL U'.vm U'.heap S') hM hf hl
  · rintro m meth c A a Y ⟨-, -, g1, g2⟩
    have cd : (Jvm.Cond.code y bytes' maxL' ret').before a A.U = true := mv (loc Y).1 wc
    have ct : (Jvm.Cond.and (Jvm.Cond.code y bytes' maxL' ret') .tt).before a A.U = true := by rw [Cond.before_and, cd]; rfl
    exact ⟨ct, cd, mv (loc Y).1 wz, g1, g2⟩
  · rintro m meth c A a g mk Y ⟨g1, g2, -⟩
    exact ⟨g1, (loc Y).1, g2, (loc Y).2.1, hSL.chr (loc Y).2⟩
  · intros; trivial
  · rintro _ _ _ _ ⟨v, L, S', rfl, d, hC, hE⟩
    exact ⟨L, _, _, hE, v, S', rfl, hC, d⟩
  · rintro m meth c A a g mk v t L k n Y ⟨-, rfl, -⟩ - - ⟨v', S', o1, hC, d⟩
    cases o1
    exact ⟨L, S', d, rfl, rfl, rfl, (loc Y).2.trans hC⟩
abbrev NoH (y : MethodName) : Prop := y.cls ≠ "java/lang/invoke/MethodHandle" ∧ y.cls ≠ "java/lang/invoke/VarHandle"
/-- behind a call -/
theorem after {T : State} {vm0 : Vm} {k0 k1 n1 : Nat} {rm : Room} {Q' : Po} {v : Option Value} {P : Pt} {locs : List Loc} {t0 : State} (hS : s.Since vm0 k0) (hk0 : k0 ≤ h.size) (eT : T.heap = h) (q1 : k1 ≤ k) (q2 : n1 ≤ n) (hk : k + rm.cells ≤ k') (hn : n + rm.slots ≤ n')
    (hZ : Z.Warmed39 vm0) (hown : vm0.findClass own = some m.cls) (N : Fr n0 locs) (C : CHr Z EL s.vm s.heap vm0 h) (SL : SafeL Z EL vm0 h S)
    (X' : Stand p l e R ((s.setVm vm0).setVm P.U.vm) m args below meth c P.U P.locs P.cells P.slots) (h2 : (s.setVm vm0).Since P.U.vm P.U.heap.size) (hg : T.heap.size ≤ P.U.heap.size)
    (hpost : ∃ L S', (Q' v P.U.heap S' ∧ Fr n0 L ∧ Old Z n0 P.U.heap ∧ SafeL Z EL P.U.vm P.U.heap S') ∧ P.locs = locs ++ L ∧ P.cells = k1 + rm.cells ∧ P.slots = n1 + rm.slots ∧ CHr Z EL vm0 h P.U.vm P.U.heap)
    (hst : Steps p.tables e below t0 (P.U.setTop (mkF m pc' Ls (v.toList ++ rest))))
    (hr : ∀ v h' S', Q' v h' S' → h.size ≤ h'.size → Go p l e R s m args below meth c Z EL n0 own Q (S' ++ S) h' k' n' pc' Ls (v.toList ++ rest)) : Fnl p e R s below Z EL n0 Q t0 := by
  obtain ⟨L, S', ⟨hQ, N', O', SL'⟩, e1, e2, e3, C'⟩ := hpost
  obtain ⟨Y, hS2, hZ2, hown2⟩ := rebS hS (by rw [eT]; exact hk0) X' h2 hg hZ hown
  obtain ⟨s2, o, q, r2⟩ := hr v P.U.heap S' hQ C'.2.1 P.U ⟨P.locs, P.U.vm, P.U.heap.size, P.cells, P.slots, by omega, by omega, Y, rfl, hS2, Nat.le_refl _, hZ2, hown2, e1 ▸ N.app N', O', C.trans C', SL'.app (SL.chr C')⟩
  exact ⟨s2, o, hst.trans q, r2⟩
theorem iload (B : Bdy p meth c Z EL a0 bytes maxL ret nm) {j : Nat} {x : Int32} (hd : decode bytes pc = .ok (.iload j, 2)) (hr : Go p l e R s m args below meth c Z EL n0 own Q S h k n pc' Ls (.int x :: st)) (hp : pc' = pc + 2 := by rfl) (hl : Ls[j]? = some (.val (.int x)) := by rfl) : Go p l e R s m args below meth c Z EL n0 own Q S h k n pc Ls st := by
  subst hp
  exact plain hr fun T A t q => XS.iload A B.1 rfl (hb B.2.1 hd) hl q
theorem iloadN (B : Bdy p meth c Z EL a0 bytes maxL ret nm) {j : Fin 4} {x : Int32} (hd : decode bytes pc = .ok (.iload_n j, 1)) (hr : Go p l e R s m args below meth c Z EL n0 own Q S h k n pc' Ls (.int x :: st)) (hp : pc' = pc + 1 := by rfl) (hl : Ls[j.val]? = some (.val (.int x)) := by rfl) : Go p l e R s m args below meth c Z EL n0 own Q S h k n pc Ls st := by
  subst hp
  exact plain hr fun T A t q => XS.iloadN A B.1 rfl (hb B.2.1 hd) hl q
theorem lload (B : Bdy p meth c Z EL a0 bytes maxL ret nm) {j : Nat} {x : Int64} (hd : decode bytes pc = .ok (.lload j, 2)) (hr : Go p l e R s m args below meth c Z EL n0 own Q S h k n pc' Ls (.long x :: st)) (hp : pc' = pc + 2 := by rfl) (hl : Ls[j]? = some (.val (.long x)) := by rfl) : Go p l e R s m args below meth c Z EL n0 own Q S h k n pc Ls st := by
  subst hp
  exact plain hr fun T A t q => XT.lload A B.1 rfl (hb B.2.1 hd) hl q
theorem lloadN (B : Bdy p meth c Z EL a0 bytes maxL ret nm) {j : Fin 4} {x : Int64} (hd : decode bytes pc = .ok (.lload_n j, 1)) (hr : Go p l e R s m args below meth c Z EL n0 own Q S h k n pc' Ls (.long x :: st)) (hp : pc' = pc + 1 := by rfl) (hl : Ls[j.val]? = some (.val (.long x)) := by rfl) : Go p l e R s m args below meth c Z EL n0 own Q S h k n pc Ls st := by
  subst hp
  exact plain hr fun T A t q => XT.lloadN A B.1 rfl (hb B.2.1 hd) hl q
theorem aload (B : Bdy p meth c Z EL a0 bytes maxL ret nm) {j : Nat} {v : Value} (hd : decode bytes pc = .ok (.aload j, 2)) (hr : Go p l e R s m args below meth c Z EL n0 own Q S h k n pc' Ls (v :: st)) (hp : pc' = pc + 2 := by rfl) (hl : Ls[j]? = some (.val v) := by rfl) (hv : v.isRef = true := by rfl) : Go p l e R s m args below meth c Z EL n0 own Q S h k n pc Ls st := by
  subst hp
  exact plain hr fun T A t q => XS.aload A B.1 rfl (hb B.2.1 hd) hl hv q
theorem aloadN (B : Bdy p meth c Z EL a0 bytes maxL ret nm) {j : Fin 4} {v : Value} (hd : decode bytes pc = .ok (.aload_n j, 1)) (hr : Go p l e R s m args below meth c Z EL n0 own Q S h k n pc' Ls (v :: st)) (hp : pc' = pc + 1 := by rfl) (hl : Ls[j.val]? = some (.val v) := by rfl) (hv : v.isRef = true := by rfl) : Go p l e R s m args below meth c Z EL n0 own Q S h k n pc Ls st := by
  subst hp
  exact plain hr fun T A t q => XS.aloadN A B.1 rfl (hb B.2.1 hd) hl hv q
theorem istore (B : Bdy p meth c Z EL a0 bytes maxL ret nm) {j : Nat} {x : Int32} (hd : decode bytes pc = .ok (.istore j, 2)) (hr : Go p l e R s m args below meth c Z EL n0 own Q S h k n pc' Ls' st) (hp : pc' = pc + 2 := by rfl) (hl : storeLocals Ls j (.int x) = some Ls' := by rfl) : Go p l e R s m args below meth c Z EL n0 own Q S h k n pc Ls (.int x :: st) := by
  subst hp
  exact plain hr fun T A t q => XS.istore A B.1 rfl (hb B.2.1 hd) rfl hl q
theorem istoreN (B : Bdy p meth c Z EL a0 bytes maxL ret nm) {j : Fin 4} {x : Int32} (hd : decode bytes pc = .ok (.istore_n j, 1)) (hr : Go p l e R s m args below meth c Z EL n0 own Q S h k n pc' Ls' st) (hp : pc' = pc + 1 := by rfl) (hl : storeLocals Ls j.val (.int x) = some Ls' := by rfl) : Go p l e R s m args below meth c Z EL n0 own Q S h k n pc Ls (.int x :: st) := by
  subst hp
  exact plain hr fun T A t q => XS.istoreN A B.1 rfl (hb B.2.1 hd) rfl hl q
theorem astore (B : Bdy p meth c Z EL a0 bytes maxL ret nm) {j : Nat} {v : Value} (hd : decode bytes pc = .ok (.astore j, 2)) (hr : Go p l e R s m args below meth c Z EL n0 own Q S h k n pc' Ls' st) (hp : pc' = pc + 2 := by rfl) (hv : v.isRef = true := by rfl) (hl : storeLocals Ls j v = some Ls' := by rfl) : Go p l e R s m args below meth c Z EL n0 own Q S h k n pc Ls (v :: st) := by
  subst hp
  exact plain hr fun T A t q => XS.astore A B.1 rfl (hb B.2.1 hd) rfl hv hl q
theorem astoreN (B : Bdy p meth c Z EL a0 bytes maxL ret nm) {j : Fin 4} {v : Value} (hd : decode bytes pc = .ok (.astore_n j, 1)) (hr : Go p l e R s m args below meth c Z EL n0 own Q S h k n pc' Ls' st) (hp : pc' = pc + 1 := by rfl) (hv : v.isRef = true := by rfl) (hl : storeLocals Ls j.val v = some Ls' := by rfl) : Go p l e R s m args below meth c Z EL n0 own Q S h k n pc Ls (v :: st) := by
  subst hp
  exact plain hr fun T A t q => XS.astoreN A B.1 rfl (hb B.2.1 hd) rfl hv hl q
theorem iinc (B : Bdy p meth c Z EL a0 bytes maxL ret nm) {j : Nat} {cst : Int} {x y : Int32} (hd : decode bytes pc = .ok (.iinc j cst, 3)) (hr : Go p l e R s m args below meth c Z EL n0 own Q S h k n pc' Ls' st) (hp : pc' = pc + 3 := by rfl) (hl : Ls[j]? = some (.val (.int x)) := by rfl) (hy : y = x + Int32.ofInt cst := by first | rfl | decide) (hl' : storeLocals Ls j (.int y) = some Ls' := by rfl) : Go p l e R s m args below meth c Z EL n0 own Q S h k n pc Ls st := by
  subst hp
  exact plain hr fun T A t q => XS.iinc A B.1 rfl (hb B.2.1 hd) hl (hy ▸ hl') q
theorem iconst (B : Bdy p meth c Z EL a0 bytes maxL ret nm) {i : Int} {x : Int32} (hd : decode bytes pc = .ok (.iconst i, 1)) (hr : Go p l e R s m args below meth c Z EL n0 own Q S h k n pc' Ls (.int x :: st)) (hp : pc' = pc + 1 := by rfl) (hi : Int32.ofInt i = x := by first | rfl | decide) : Go p l e R s m args below meth c Z EL n0 own Q S h k n pc Ls st := by
  subst hp
  exact plain hr fun T A t q => XS.iconst A B.1 rfl (hb B.2.1 hd) (hi ▸ q)
theorem bipush (B : Bdy p meth c Z EL a0 bytes maxL ret nm) {i : Int} {x : Int32} (hd : decode bytes pc = .ok (.bipush i, 2)) (hr : Go p l e R s m args below meth c Z EL n0 own Q S h k n pc' Ls (.int x :: st)) (hp : pc' = pc + 2 := by rfl) (hi : (Int8.ofInt i).toInt32 = x := by first | rfl | decide) : Go p l e R s m args below meth c Z EL n0 own Q S h k n pc Ls st := by
  subst hp
  exact plain hr fun T A t q => XS.bipush A B.1 rfl (hb B.2.1 hd) (hi ▸ q)
theorem sipush (B : Bdy p meth c Z EL a0 bytes maxL ret nm) {i : Int} {x : Int32} (hd : decode bytes pc = .ok (.sipush i, 3)) (hr : Go p l e R s m args below meth c Z EL n0 own Q S h k n pc' Ls (.int x :: st)) (hp : pc' = pc + 3 := by rfl) (hi : (Int16.ofInt i).toInt32 = x := by first | rfl | decide) : Go p l e R s m args below meth c Z EL n0 own Q S h k n pc Ls st := by
  subst hp
  exact plain hr fun T A t q => XS.sipush A B.1 rfl (hb B.2.1 hd) (hi ▸ q)
theorem aconstNull (B : Bdy p meth c Z EL a0 bytes maxL ret nm)  (hd : decode bytes pc = .ok (.aconst_null, 1)) (hr : Go p l e R s m args below meth c Z EL n0 own Q S h k n pc' Ls (.null :: st)) (hp : pc' = pc + 1 := by rfl)  : Go p l e R s m args below meth c Z EL n0 own Q S h k n pc Ls st := by
  subst hp
  exact plain hr fun T A t q => XS.aconstNull A B.1 rfl (hb B.2.1 hd) q
theorem iadd (B : Bdy p meth c Z EL a0 bytes maxL ret nm) {x y z : Int32} (hd : decode bytes pc = .ok (.iadd, 1)) (hr : Go p l e R s m args below meth c Z EL n0 own Q S h k n pc' Ls (.int z :: st)) (hp : pc' = pc + 1 := by rfl) (hz : x + y = z := by first | rfl | decide) : Go p l e R s m args below meth c Z EL n0 own Q S h k n pc Ls (.int y :: .int x :: st) := by
  subst hp
  exact plain hr fun T A t q => XS.iadd A B.1 rfl (hb B.2.1 hd) rfl (hz ▸ q)
theorem isub (B : Bdy p meth c Z EL a0 bytes maxL ret nm) {x y z : Int32} (hd : decode bytes pc = .ok (.isub, 1)) (hr : Go p l e R s m args below meth c Z EL n0 own Q S h k n pc' Ls (.int z :: st)) (hp : pc' = pc + 1 := by rfl) (hz : x - y = z := by first | rfl | decide) : Go p l e R s m args below meth c Z EL n0 own Q S h k n pc Ls (.int y :: .int x :: st) := by
  subst hp
  exact plain hr fun T A t q => XS.isub A B.1 rfl (hb B.2.1 hd) rfl (hz ▸ q)
theorem imul (B : Bdy p meth c Z EL a0 bytes maxL ret nm) {x y z : Int32} (hd : decode bytes pc = .ok (.imul, 1)) (hr : Go p l e R s m args below meth c Z EL n0 own Q S h k n pc' Ls (.int z :: st)) (hp : pc' = pc + 1 := by rfl) (hz : x * y = z := by first | rfl | decide) : Go p l e R s m args below meth c Z EL n0 own Q S h k n pc Ls (.int y :: .int x :: st) := by
  subst hp
  exact plain hr fun T A t q => XS.imul A B.1 rfl (hb B.2.1 hd) rfl (hz ▸ q)
theorem iand (B : Bdy p meth c Z EL a0 bytes maxL ret nm) {x y z : Int32} (hd : decode bytes pc = .ok (.iand, 1)) (hr : Go p l e R s m args below meth c Z EL n0 own Q S h k n pc' Ls (.int z :: st)) (hp : pc' = pc + 1 := by rfl) (hz : x &&& y = z := by first | rfl | decide) : Go p l e R s m args below meth c Z EL n0 own Q S h k n pc Ls (.int y :: .int x :: st) := by
  subst hp
  exact plain hr fun T A t q => XS.iand A B.1 rfl (hb B.2.1 hd) rfl (hz ▸ q)
theorem ishr (B : Bdy p meth c Z EL a0 bytes maxL ret nm) {x y z : Int32} (hd : decode bytes pc = .ok (.ishr, 1)) (hr : Go p l e R s m args below meth c Z EL n0 own Q S h k n pc' Ls (.int z :: st)) (hp : pc' = pc + 1 := by rfl) (hz : x >>> (y &&& 31) = z := by first | rfl | decide) : Go p l e R s m args below meth c Z EL n0 own Q S h k n pc Ls (.int y :: .int x :: st) := by
  subst hp
  exact plain hr fun T A t q => XT.ishr A B.1 rfl (hb B.2.1 hd) rfl (hz ▸ q)
theorem iushr (B : Bdy p meth c Z EL a0 bytes maxL ret nm) {x y z : Int32} (hd : decode bytes pc = .ok (.iushr, 1)) (hr : Go p l e R s m args below meth c Z EL n0 own Q S h k n pc' Ls (.int z :: st)) (hp : pc' = pc + 1 := by rfl) (hz : Jvm.Free.XT.ushr x y = z := by first | rfl | decide) : Go p l e R s m args below meth c Z EL n0 own Q S h k n pc Ls (.int y :: .int x :: st) := by
  subst hp
  exact plain hr fun T A t q => XT.iushr A B.1 rfl (hb B.2.1 hd) rfl (hz ▸ q)
theorem irem (B : Bdy p meth c Z EL a0 bytes maxL ret nm) {x y z : Int32} (hd : decode bytes pc = .ok (.irem, 1)) (hr : Go p l e R s m args below meth c Z EL n0 own Q S h k n pc' Ls (.int z :: st)) (hp : pc' = pc + 1 := by rfl) (hy : y ≠ 0 := by first | rfl | decide) (hz : x % y = z := by first | rfl | decide) : Go p l e R s m args below meth c Z EL n0 own Q S h k n pc Ls (.int y :: .int x :: st) := by
  subst hp
  exact plain hr fun T A t q => XS.irem A B.1 rfl (hb B.2.1 hd) rfl hy (by rw [irem_eq_mod x y, hz]; exact q)
theorem i2b (B : Bdy p meth c Z EL a0 bytes maxL ret nm) {x z : Int32} (hd : decode bytes pc = .ok (.i2b, 1)) (hr : Go p l e R s m args below meth c Z EL n0 own Q S h k n pc' Ls (.int z :: st)) (hp : pc' = pc + 1 := by rfl) (hz : x.toInt8.toInt32 = z := by first | rfl | decide) : Go p l e R s m args below meth c Z EL n0 own Q S h k n pc Ls (.int x :: st) := by
  subst hp
  exact plain hr fun T A t q => XT.i2b A B.1 rfl (hb B.2.1 hd) rfl (hz ▸ q)
theorem i2c (B : Bdy p meth c Z EL a0 bytes maxL ret nm) {x z : Int32} (hd : decode bytes pc = .ok (.i2c, 1)) (hr : Go p l e R s m args below meth c Z EL n0 own Q S h k n pc' Ls (.int z :: st)) (hp : pc' = pc + 1 := by rfl) (hz : x.toUInt32.toUInt16.toUInt32.toInt32 = z := by first | rfl | decide) : Go p l e R s m args below meth c Z EL n0 own Q S h k n pc Ls (.int x :: st) := by
  subst hp
  exact plain hr fun T A t q => XT.i2c A B.1 rfl (hb B.2.1 hd) rfl (hz ▸ q)
theorem l2i (B : Bdy p meth c Z EL a0 bytes maxL ret nm) {x : Int64} {z : Int32} (hd : decode bytes pc = .ok (.l2i, 1)) (hr : Go p l e R s m args below meth c Z EL n0 own Q S h k n pc' Ls (.int z :: st)) (hp : pc' = pc + 1 := by rfl) (hz : x.toInt32 = z := by first | rfl | decide) : Go p l e R s m args below meth c Z EL n0 own Q S h k n pc Ls (.long x :: st) := by
  subst hp
  exact plain hr fun T A t q => XT.l2i A B.1 rfl (hb B.2.1 hd) rfl (hz ▸ q)
theorem lushr (B : Bdy p meth c Z EL a0 bytes maxL ret nm) {x z : Int64} {y : Int32} (hd : decode bytes pc = .ok (.lushr, 1)) (hr : Go p l e R s m args below meth c Z EL n0 own Q S h k n pc' Ls (.long z :: st)) (hp : pc' = pc + 1 := by rfl) (hz : Jvm.Free.XT.ushrL x y = z := by first | rfl | decide) : Go p l e R s m args below meth c Z EL n0 own Q S h k n pc Ls (.int y :: .long x :: st) := by
  subst hp
  exact plain hr fun T A t q => XT.lushr A B.1 rfl (hb B.2.1 hd) rfl (hz ▸ q)
theorem dup (B : Bdy p meth c Z EL a0 bytes maxL ret nm) {v : Value} (hd : decode bytes pc = .ok (.dup, 1)) (hr : Go p l e R s m args below meth c Z EL n0 own Q S h k n pc' Ls (v :: v :: st)) (hp : pc' = pc + 1 := by rfl) (hc : v.category = 1 := by rfl) : Go p l e R s m args below meth c Z EL n0 own Q S h k n pc Ls (v :: st) := by
  subst hp
  exact plain hr fun T A t q => XS.dup A B.1 rfl (hb B.2.1 hd) rfl hc q
theorem pop (B : Bdy p meth c Z EL a0 bytes maxL ret nm) {v : Value} (hd : decode bytes pc = .ok (.pop, 1)) (hr : Go p l e R s m args below meth c Z EL n0 own Q S h k n pc' Ls st) (hp : pc' = pc + 1 := by rfl) (hc : v.category = 1 := by rfl) : Go p l e R s m args below meth c Z EL n0 own Q S h k n pc Ls (v :: st) := by
  subst hp
  exact plain hr fun T A t q => XT.pop A B.1 rfl (hb B.2.1 hd) rfl hc q
theorem goto (B : Bdy p meth c Z EL a0 bytes maxL ret nm) {o : Int} (hd : decode bytes pc = .ok (.goto o, 3)) (hr : Go p l e R s m args below meth c Z EL n0 own Q S h k n pc' Ls st) (ho : 0 ≤ (pc : Int) + o := by decide) (hp : ((pc : Int) + o).toNat = pc' := by decide) : Go p l e R s m args below meth c Z EL n0 own Q S h k n pc Ls st := plain hr fun T A t q => XS.goto A B.1 rfl (pc0 := pc) rfl (hb B.2.1 hd) ho hp q
theorem ifT (B : Bdy p meth c Z EL a0 bytes maxL ret nm) {cd : ClassFile.Cond} {x : Int32} {o : Int} (hd : decode bytes pc = .ok (.ifCond cd o, 3)) (hc : if_icmp.holds cd x 0 = true) (hr : Go p l e R s m args below meth c Z EL n0 own Q S h k n pc' Ls st) (ho : 0 ≤ (pc : Int) + o := by decide) (hp : ((pc : Int) + o).toNat = pc' := by decide) : Go p l e R s m args below meth c Z EL n0 own Q S h k n pc Ls (.int x :: st) := plain hr fun T A t q => XS.ifYes A B.1 rfl (pc0 := pc) rfl (hb B.2.1 hd) rfl ((if0 cd x).trans hc) ho hp q
theorem ifF (B : Bdy p meth c Z EL a0 bytes maxL ret nm) {cd : ClassFile.Cond} {x : Int32} {o : Int} (hd : decode bytes pc = .ok (.ifCond cd o, 3)) (hc : if_icmp.holds cd x 0 = false) (hr : Go p l e R s m args below meth c Z EL n0 own Q S h k n pc' Ls st) (hp : pc' = pc + 3 := by rfl) : Go p l e R s m args below meth c Z EL n0 own Q S h k n pc Ls (.int x :: st) := by
  subst hp
  exact plain hr fun T A t q => XS.ifNo A B.1 rfl (hb B.2.1 hd) rfl ((if0 cd x).trans hc) q
theorem icmpT (B : Bdy p meth c Z EL a0 bytes maxL ret nm) {cd : ClassFile.Cond} {x y : Int32} {o : Int} (hd : decode bytes pc = .ok (.if_icmp cd o, 3)) (hc : if_icmp.holds cd x y = true) (hr : Go p l e R s m args below meth c Z EL n0 own Q S h k n pc' Ls st) (ho : 0 ≤ (pc : Int) + o := by decide) (hp : ((pc : Int) + o).toNat = pc' := by decide) : Go p l e R s m args below meth c Z EL n0 own Q S h k n pc Ls (.int y :: .int x :: st) := plain hr fun T A t q => XS.icmpYes A B.1 rfl (pc0 := pc) rfl (hb B.2.1 hd) rfl hc ho hp q
theorem icmpF (B : Bdy p meth c Z EL a0 bytes maxL ret nm) {cd : ClassFile.Cond} {x y : Int32} {o : Int} (hd : decode bytes pc = .ok (.if_icmp cd o, 3)) (hc : if_icmp.holds cd x y = false) (hr : Go p l e R s m args below meth c Z EL n0 own Q S h k n pc' Ls st) (hp : pc' = pc + 3 := by rfl) : Go p l e R s m args below meth c Z EL n0 own Q S h k n pc Ls (.int y :: .int x :: st) := by
  subst hp
  exact plain hr fun T A t q => XS.icmpNo A B.1 rfl (hb B.2.1 hd) rfl hc q
theorem callStatic (B : Bdy p meth c Z EL a0 bytes maxL ret nm) {index : Nat} {y : MethodName} {bytes' : ByteArray} {maxL' : Nat} {ret' : Option FieldType} {rm : Room} {S1 : List Addr} {Q' : Po} {argsL : List Value} {ps : List FieldType} {rt : Option FieldType} {W : Nat} (hd : decode bytes pc = .ok (.invokestatic index, 3)) (w1 : (Jvm.Cond.methodLink own index y).before a0 Z = true) (w2 : (Jvm.Cond.static y).before a0 Z = true) (w3 : (Jvm.Cond.initialized y.cls).before a0 Z = true) (w4 : (Jvm.Cond.code y bytes' maxL' ret').before a0 Z = true) 
    (hM : Con l Z EL n0 y bytes' maxL' ret' [] rm argsL.toArray S1 h Q') (hpd : parseMethodDescriptor y.desc = some ⟨ps, rt⟩)
    (hr : ∀ v h' S', Q' v h' S' → h.size ≤ h'.size → Go p l e R s m args below meth c Z EL n0 own Q (S' ++ S) h' k' n' pc' Ls (v.toList ++ rest)) (hp : pc' = pc + 3 := by rfl) (hln : argsL.length = ps.length := by rfl) (hW : (rest.map fun v => v.category).sum ≤ W := by exact Nat.le_of_eq rfl) (hf : rm.frames + 1 ≤ R.frames := by decide) (hl : W + (maxL' + 11) + rm.locals ≤ R.locals := by decide) (hk : k + rm.cells ≤ k' := by decide) (hn : n + rm.slots ≤ n' := by decide) (hkR : k' ≤ R.cells := by decide) (hnR : n' ≤ R.slots := by decide) (hsub : ∀ x ∈ S1, x ∈ S := by simp) (hsz : Ls.size = maxL := by rfl) (hst : st = argsL.reverse ++ rest := by rfl) (hy : NoH y := by decide) : Go p l e R s m args below meth c Z EL n0 own Q S h k n pc Ls st := by
  subst hp hst
  intro T ⟨locs, vm0, k0, k1, n1, q1, q2, X, eT, hS, hk0, hZ, hown, N, O, C, SL⟩
  obtain ⟨v, vm1, P, hW1, X', h2, hg, hpost, hst⟩ := callSS X B.1 (y := y) hown (mvT (s := s.setVm vm0) hZ w1) (mvT (s := s.setVm vm0) hZ w2) (mvT (s := s.setVm vm0) hZ w3) (mvT (s := s.setVm vm0) hZ w4) hy (Con.back (W := W) hM hZ w4 w3 hf hl B.2.2.2.2.2.2.1 C.1 (SL.sub hsub)) (g := mkF m pc Ls (argsL.reverse ++ rest)) rfl (by rw [B.2.2.1]; exact hsz) (argsL := argsL) (rest := rest) (lenOf hpd hln) rfl (by show 2 * 0 + _ ≤ _; omega) (hb B.2.1 hd) (fun _ _ => ⟨rfl, eT, by show k1 + _ ≤ _; omega, by show n1 + _ ≤ _; omega⟩)
  exact after hS hk0 eT q1 q2 hk hn hZ hown N C SL X' h2 hg hpost hst hr
theorem callInit (B : Bdy p meth c Z EL a0 bytes maxL ret nm) {index : Nat} {y : MethodName} {bytes' : ByteArray} {maxL' : Nat} {rm : Room} {S1 : List Addr} {Q' : Po} {argsL : List Value} {ps : List FieldType} {rt : Option FieldType} {W : Nat} {a : Addr} (hd : decode bytes pc = .ok (.invokespecial index, 3)) (w1 : (Jvm.Cond.methodLink own index y).before a0 Z = true) (w2 : (Jvm.Cond.instanceMethod y).before a0 Z = true) (w3 : (Jvm.Cond.initialized y.cls).before a0 Z = true) (w4 : (Jvm.Cond.code y bytes' maxL' none).before a0 Z = true) 
    (hM : Con l Z EL n0 y bytes' maxL' none [] rm (.ref a :: argsL).toArray S1 h Q') (hpd : parseMethodDescriptor y.desc = some ⟨ps, rt⟩)
    (hr : ∀ v h' S', Q' v h' S' → h.size ≤ h'.size → Go p l e R s m args below meth c Z EL n0 own Q (S' ++ S) h' k' n' pc' Ls (v.toList ++ rest)) (hp : pc' = pc + 3 := by rfl) (hln : argsL.length = ps.length := by rfl) (hW : (rest.map fun v => v.category).sum ≤ W := by exact Nat.le_of_eq rfl) (hf : rm.frames + 1 ≤ R.frames := by decide) (hl : W + (maxL' + 11) + rm.locals ≤ R.locals := by decide) (hk : k + rm.cells ≤ k' := by decide) (hn : n + rm.slots ≤ n' := by decide) (hkR : k' ≤ R.cells := by decide) (hnR : n' ≤ R.slots := by decide) (hsub : ∀ x ∈ S1, x ∈ S := by simp) (hsz : Ls.size = maxL := by rfl) (hst : st = argsL.reverse ++ .ref a :: rest := by rfl) (hy : NoH y := by decide) (hy1 : y.name = "<init>" := by rfl) : Go p l e R s m args below meth c Z EL n0 own Q S h k n pc Ls st := by
  subst hp hst
  intro T ⟨locs, vm0, k0, k1, n1, q1, q2, X, eT, hS, hk0, hZ, hown, N, O, C, SL⟩
  obtain ⟨v, vm1, P, hW1, X', h2, hg, hpost, hst⟩ := X.specialBackS B.1 (y := y) hy1 hown (mvT (s := s.setVm vm0) hZ w1) (mvT (s := s.setVm vm0) hZ w2) (mvT (s := s.setVm vm0) hZ w4) hy (Con.back (W := W) hM hZ w4 w3 hf hl B.2.2.2.2.2.2.1 C.1 (SL.sub hsub)) (g := mkF m pc Ls (argsL.reverse ++ .ref a :: rest)) rfl (by rw [B.2.2.1]; exact hsz) (Steps.refl _) (a := a) (argsL := argsL) (rest := rest) (lenOf hpd hln) rfl (by show 2 * 0 + _ ≤ _; omega) (hb B.2.1 hd) (fun _ _ => ⟨rfl, eT, by show k1 + _ ≤ _; omega, by show n1 + _ ≤ _; omega⟩)
  exact after hS hk0 eT q1 q2 hk hn hZ hown N C SL X' h2 hg hpost hst hr
theorem callVirtual (B : Bdy p meth c Z EL a0 bytes maxL ret nm) {index : Nat} {y : MethodName} {bytes' : ByteArray} {maxL' : Nat} {ret' : Option FieldType} {rm : Room} {S1 : List Addr} {Q' : Po} {argsL : List Value} {ps : List FieldType} {rt : Option FieldType} {W : Nat} {a : Addr} {K K' : String} {z : MethodName} (hd : decode bytes pc = .ok (.invokevirtual index, 3)) (w1 : (Jvm.Cond.methodLink own index y).before a0 Z = true) (w2 : (Jvm.Cond.declares y).before a0 Z = true) (w0 : (Jvm.Cond.selects K' y y).before a0 Z = true) (w5 : (Jvm.Cond.selects K y z).before a0 Z = true) (w6 : (Jvm.Cond.instanceMethod z).before a0 Z = true) (w3 : (Jvm.Cond.initialized z.cls).before a0 Z = true) (w4 : (Jvm.Cond.code z bytes' maxL' ret').before a0 Z = true) (E : Exa Z h a K)
    (hM : Con l Z EL n0 z bytes' maxL' ret' [] rm (.ref a :: argsL).toArray S1 h Q') (hpd : parseMethodDescriptor y.desc = some ⟨ps, rt⟩)
    (hr : ∀ v h' S', Q' v h' S' → h.size ≤ h'.size → Go p l e R s m args below meth c Z EL n0 own Q (S' ++ S) h' k' n' pc' Ls (v.toList ++ rest)) (hp : pc' = pc + 3 := by rfl) (hln : argsL.length = ps.length := by rfl) (hW : (rest.map fun v => v.category).sum ≤ W := by exact Nat.le_of_eq rfl) (hf : rm.frames + 1 ≤ R.frames := by decide) (hl : W + (maxL' + 11) + rm.locals ≤ R.locals := by decide) (hk : k + rm.cells ≤ k' := by decide) (hn : n + rm.slots ≤ n' := by decide) (hkR : k' ≤ R.cells := by decide) (hnR : n' ≤ R.slots := by decide) (hsub : ∀ x ∈ S1, x ∈ S := by simp) (hsz : Ls.size = maxL := by rfl) (hst : st = argsL.reverse ++ .ref a :: rest := by rfl) (hy : NoH y := by decide) : Go p l e R s m args below meth c Z EL n0 own Q S h k n pc Ls st := by
  subst hp hst
  intro T ⟨locs, vm0, k0, k1, n1, q1, q2, X, eT, hS, hk0, hZ, hown, N, O, C, SL⟩
  obtain ⟨cq, kq, qa, qb, qc⟩ := isOf (s := s.setVm vm0) hZ eT E
  obtain ⟨v, vm1, P, hW1, X', h2, hg, hpost, hst⟩ := X.virtualBackS B.1 (y := y) (z := z) hown (mvT (s := s.setVm vm0) hZ w1) (mvT (s := s.setVm vm0) hZ w2) (notFace_of_selects (args := #[]) (mvT (s := s.setVm vm0) hZ w0)) (mvT (s := s.setVm vm0) hZ w5) (mvT (s := s.setVm vm0) hZ w6) hy (Con.back (W := W) hM hZ w4 w3 hf hl B.2.2.2.2.2.2.1 C.1 (SL.sub hsub)) qa qc (g := mkF m pc Ls (argsL.reverse ++ .ref a :: rest)) rfl (by rw [B.2.2.1]; exact hsz) (Steps.refl _) (argsL := argsL) (rest := rest) (lenOf hpd hln) rfl (by show 2 * 0 + _ ≤ _; omega) (hb B.2.1 hd) (fun _ _ => ⟨rfl, eT, by show k1 + _ ≤ _; omega, by show n1 + _ ≤ _; omega⟩)
  exact after hS hk0 eT q1 q2 hk hn hZ hown N C SL X' h2 hg hpost hst hr
theorem selPriv {s : State} {args : Array Value} {y : MethodName} {nI : Nat} (hi : (Jvm.Cond.instanceMethod y).before args s = true) (hp : (Jvm.Cond.privateMethod y).before args s = true) (hn : (Jvm.Cond.instantiable y.cls nI).before args s = true) (hy : NoH y) : (Jvm.Cond.selects y.cls y y).before args s = true := by
  obtain ⟨mk, methM, hnamed, hmethM, hstM, habM⟩ := Cond.instanceMethod_spec hi
  obtain ⟨c, k, hc, hk, -, hfl, -⟩ := Cond.instantiable_spec hn
  have hcm : s.vm.findClass y.cls = some mk.cls := findClass_of_methodNamed hnamed
  cases hc.symm.trans hcm
  have hf := State.methodFound?_of_named hnamed hy
  have hsel := selectMethod_private (p := {}) (c := mk.cls) hmethM (Cond.privateMethod_at hp mk methM hnamed hmethM)
  simp only [Bool.or_eq_false_iff] at hfl
  simp [Cond.before, Cond.holds, Cond.value, hcm, hf, hnamed, hsel, hk, hfl.1]
theorem mvPri {Z s : State} {a0 args : Array Value} {y : MethodName} (hZ : Z.Warmed39 s.vm) (w : (Jvm.Cond.privateMethod y).before a0 Z = true) : (Jvm.Cond.privateMethod y).before args s = true := by
  have h1 : (Jvm.Cond.privateMethod y).before a0 (Z.setVm s.vm) = true := Cond.rides hZ rfl w
  exact h1
theorem callPrivate (B : Bdy p meth c Z EL a0 bytes maxL ret nm) {index : Nat} {y : MethodName} {bytes' : ByteArray} {maxL' : Nat} {ret' : Option FieldType} {rm : Room} {S1 : List Addr} {Q' : Po} {argsL : List Value} {ps : List FieldType} {rt : Option FieldType} {W : Nat} {a : Addr} {K : String} {nI : Nat} (hd : decode bytes pc = .ok (.invokevirtual index, 3)) (w1 : (Jvm.Cond.methodLink own index y).before a0 Z = true) (w6 : (Jvm.Cond.instanceMethod y).before a0 Z = true) (w5 : (Jvm.Cond.privateMethod y).before a0 Z = true) (w7 : (Jvm.Cond.instantiable y.cls nI).before a0 Z = true) (w3 : (Jvm.Cond.initialized y.cls).before a0 Z = true) (w4 : (Jvm.Cond.code y bytes' maxL' ret').before a0 Z = true) (E : Exa Z h a K)
    (hM : Con l Z EL n0 y bytes' maxL' ret' [] rm (.ref a :: argsL).toArray S1 h Q') (hpd : parseMethodDescriptor y.desc = some ⟨ps, rt⟩)
    (hr : ∀ v h' S', Q' v h' S' → h.size ≤ h'.size → Go p l e R s m args below meth c Z EL n0 own Q (S' ++ S) h' k' n' pc' Ls (v.toList ++ rest)) (hp : pc' = pc + 3 := by rfl) (hln : argsL.length = ps.length := by rfl) (hW : (rest.map fun v => v.category).sum ≤ W := by exact Nat.le_of_eq rfl) (hf : rm.frames + 1 ≤ R.frames := by decide) (hl : W + (maxL' + 11) + rm.locals ≤ R.locals := by decide) (hk : k + rm.cells ≤ k' := by decide) (hn : n + rm.slots ≤ n' := by decide) (hkR : k' ≤ R.cells := by decide) (hnR : n' ≤ R.slots := by decide) (hsub : ∀ x ∈ S1, x ∈ S := by simp) (hsz : Ls.size = maxL := by rfl) (hst : st = argsL.reverse ++ .ref a :: rest := by rfl) (hy : NoH y := by decide) : Go p l e R s m args below meth c Z EL n0 own Q S h k n pc Ls st := by
  subst hp hst
  intro T ⟨locs, vm0, k0, k1, n1, q1, q2, X, eT, hS, hk0, hZ, hown, N, O, C, SL⟩
  obtain ⟨cq, kq, qa, qb, cellB, hcell, hcls, hstat⟩ := isOf (s := s.setVm vm0) hZ eT E
  obtain ⟨v, vm1, P, hW1, X', h2, hg, hpost, hst⟩ := X.privateBackS B.1 (y := y) hown (mvT (s := s.setVm vm0) hZ w1) (mvT (s := s.setVm vm0) hZ w6) (mvT (s := s.setVm vm0) hZ (selPriv w6 w5 w7 hy)) (Cond.privateMethod_at (args := a0) (mvPri (s := s.setVm vm0) hZ w5)) (mvT (s := s.setVm vm0) hZ w4) hy (Con.back (W := W) hM hZ w4 w3 hf hl B.2.2.2.2.2.2.1 C.1 (SL.sub hsub)) (g := mkF m pc Ls (argsL.reverse ++ .ref a :: rest)) rfl (by rw [B.2.2.1]; exact hsz) (Steps.refl _) hcell (fun q e => by rw [e] at hstat; cases hstat) (argsL := argsL) (rest := rest) (lenOf hpd hln) rfl (by show 2 * 0 + _ ≤ _; omega) (hb B.2.1 hd) (fun _ _ => ⟨rfl, eT, by show k1 + _ ≤ _; omega, by show n1 + _ ≤ _; omega⟩)
  exact after hS hk0 eT q1 q2 hk hn hZ hown N C SL X' h2 hg hpost hst hr
theorem newObj (B : Bdy p meth c Z EL a0 bytes maxL ret nm) {index nn : Nat} {K : String} (hd : decode bytes pc = .ok (.new index, 3)) (w : (Jvm.Cond.classLink own index K).before a0 Z = true) (wi : (Jvm.Cond.instantiable K nn).before a0 Z = true) (wz : (Jvm.Cond.initialized K).before a0 Z = true) 
    (hr : ∀ (h' : Heap) (a : Nat), a = h.size → n0 ≤ a → Keep h h' [] → Exa Z h' a K → (∀ {O f d : String} {ty : FieldType}, Laid Z a0 K O f d → parseFieldDescriptor d = some ty → Fld Z h' a O f d (defaultValue ty)) → Go p l e R s m args below meth c Z EL n0 own Q (a :: S) h' k' n' pc' Ls (.ref a :: st)) (hp : pc' = pc + 3 := by rfl) (hk : k + 1 ≤ k' := by decide) (hn : n + nn ≤ n' := by decide) (hkR : k' ≤ R.cells := by decide) (hnR : n' ≤ R.slots := by decide) : Go p l e R s m args below meth c Z EL n0 own Q S h k n pc Ls st := by
  subst hp
  refine made (dc := 0) (dn := 0) (nn := nn) (P := fun h' => Exa Z h' h.size K ∧ ∀ (O f d : String) (ty : FieldType), Laid Z a0 K O f d → parseFieldDescriptor d = some ty → Fld Z h' h.size O f d (defaultValue ty)) hk hn ?_ (fun h' E P q => hr h' h.size rfl q (keepE E) P.1 (fun {O f d ty} a b => P.2 O f d ty a b))
  intro T vm0 locs k1 n1 q1 q2 X eT hZ hown
  obtain ⟨T', h', X', e', E, A, D, -, st⟩ := newO X B.1 hZ hown w wi wz eT (g := mkF m pc Ls st) rfl (hb B.2.1 hd) (by omega) (by omega)
  exact ⟨T', h', X', e', E, A.lt, ⟨A, fun O f d ty a b => D a b⟩, st⟩
theorem newArr (B : Bdy p meth c Z EL a0 bytes maxL ret nm) {aty : ArrayType} {z : Int32} {cap : Nat} (hd : decode bytes pc = .ok (.newarray aty, 2)) (w : (Jvm.Cond.arrayClass (newarray.typeOf aty)).before a0 Z = true) (hz : ¬ z < 0) (hcap : z.toNatClampNeg ≤ cap) 
    (hr : ∀ (h' : Heap) (a : Nat) (cA : ClassId), a = h.size → n0 ≤ a → Keep h h' [] → Arv Z h' a cA (newarray.typeOf aty) z [] (defaultValue (newarray.typeOf aty)) → Go p l e R s m args below meth c Z EL n0 own Q (a :: S) h' k' n' pc' Ls (.ref a :: rest)) (hp : pc' = pc + 2 := by rfl) (hk : k + 1 ≤ k' := by decide) (hn : n + cap ≤ n' := by decide) (hkR : k' ≤ R.cells := by decide) (hnR : n' ≤ R.slots := by decide) (hcb : cap * 8 ≤ 536870912 := by decide) : Go p l e R s m args below meth c Z EL n0 own Q S h k n pc Ls (.int z :: rest) := by
  subst hp
  refine made (dc := 0) (dn := 0) (nn := cap) (P := fun h' => ∃ cA, Arr Z h' h.size (newA cA (newarray.typeOf aty) z) (newarray.typeOf aty)) hk hn ?_ (fun h' E P q => P.elim fun cA A => hr h' h.size cA rfl q (keepE E) (Arv.new A hz))
  intro T vm0 locs k1 n1 q1 q2 X eT hZ hown
  obtain ⟨T', h', cA, X', e', E, A, st⟩ := newP X B.1 hZ w eT (g := mkF m pc Ls (.int z :: rest)) rfl (hb B.2.1 hd) (n := z) rfl hz hcap hcb (by omega) (by omega)
  exact ⟨T', h', X', e', E, A.lt, ⟨cA, A⟩, st⟩
theorem getfield (B : Bdy p meth c Z EL a0 bytes maxL ret nm) {index : Nat} {R0 O f d : String} {a : Addr} {v : Value} (hd : decode bytes pc = .ok (.getfield index, 3)) (w : (Jvm.Cond.fieldLink own index R0 f d).before a0 Z = true) (via : Via Z R0 O f d) (F : Fld Z h a O f d v) (hr : Go p l e R s m args below meth c Z EL n0 own Q S h k n pc' Ls (v :: rest)) (hp : pc' = pc + 3 := by rfl) : Go p l e R s m args below meth c Z EL n0 own Q S h k n pc Ls (.ref a :: rest) := by
  subst hp
  exact warm hr fun T vm0 locs k1 n1 X eT hZ hown _ => getF X B.1 hZ hown (host := "") (Or.inl w) via eT F (g := mkF m pc Ls (.ref a :: rest)) rfl rfl (hb B.2.1 hd)
theorem getstatic (B : Bdy p meth c Z EL a0 bytes maxL ret nm) {index : Nat} {R0 O f d : String} {v : Value} (hd : decode bytes pc = .ok (.getstatic index, 3)) (w : (Jvm.Cond.fieldLink own index R0 f d).before a0 Z = true) (via : Via Z R0 O f d) (F : Sta Z Z.heap O f d v) (hr : Go p l e R s m args below meth c Z EL n0 own Q S h k n pc' Ls (v :: st)) (hp : pc' = pc + 3 := by rfl) : Go p l e R s m args below meth c Z EL n0 own Q S h k n pc Ls st := by
  subst hp
  exact warm hr fun T vm0 locs k1 n1 X eT hZ hown O => getS X B.1 hZ hown (host := "") w via eT (F.ext O.2) (g := mkF m pc Ls st) rfl (hb B.2.1 hd)
theorem putfield (B : Bdy p meth c Z EL a0 bytes maxL ret nm) {index kk : Nat} {R0 O f d K : String} {ty : FieldType} {a : Addr} {v old : Value} (hd : decode bytes pc = .ok (.putfield index, 3)) (w : (Jvm.Cond.fieldLink own index R0 f d).before a0 Z = true) (via : Via Z R0 O f d) (F : Fld Z h a O f d old) (E : Exa Z h a K) (L : (Jvm.Cond.lays K O f d).before a0 Z = true ∨ ((Jvm.Cond.laysFinal K O f d).before a0 Z = true ∧ own = O ∧ nm = "<init>")) (wi : (Jvm.Cond.instantiable K kk).before a0 Z = true)
    (hsafe : a ∈ S ∨ (K ≠ "java/lang/String" ∧ K ≠ "[B")) (hr : ∀ h', Wr h h' a (RoadKit.slotOf Z O f d) v → Go p l e R s m args below meth c Z EL n0 own Q S h' k n pc' Ls rest) (hp : pc' = pc + 3 := by rfl) (hty : parseFieldDescriptor d = some ty := by decide) (hnn : narrow ty v = v := by rfl) (hfit : fits ty v = true := by first | rfl | decide) (ha : n0 ≤ a := by omega) : Go p l e R s m args below meth c Z EL n0 own Q S h k n pc Ls (v :: .ref a :: rest) := by
  subst hp
  exact wrote ha (fun vm0 hZ SL => hsafe.elim (fun q => (SL a q).2) (fun q => Safe.exa hZ.alike E q.1 q.2)) (fun T vm0 locs k1 n1 X eT hZ hown => putF X B.1 hZ hown (host := "") (Or.inl w) via eT F E (L.imp id fun ⟨u, v, w⟩ => ⟨u, v, B.2.2.2.2.1.trans w⟩) wi hty hnn hfit (g := mkF m pc Ls (v :: .ref a :: rest)) rfl rfl (hb B.2.1 hd)) hr
theorem castore (B : Bdy p meth c Z EL a0 bytes maxL ret nm) {a : Addr} {kc : ClassId} {z j x : Int32} {vs : List Value} {dv : Value} {i : Nat} (hd : decode bytes pc = .ok (.castore, 1)) (A : Arv Z h a kc .char z vs dv) (hj : ¬ j < 0 ∧ j < z) 
    (hr : ∀ h', Keep h h' [a] → Arv Z h' a kc .char z (vs.set i (.int (nar .char x))) dv → Go p l e R s m args below meth c Z EL n0 own Q S h' k n pc' Ls rest) (hp : pc' = pc + 1 := by rfl) (ha : n0 ≤ a := by omega) (hlt : i < vs.length := by simp) (hi : j.toNatClampNeg = i := by decide) : Go p l e R s m args below meth c Z EL n0 own Q S h k n pc Ls (.int x :: .int j :: .ref a :: rest) := by
  subst hp
  obtain ⟨cl, A1, A2, A3, A4, A5, A6⟩ := A
  exact wrote ha (fun vm0 hZ SL => Safe.arr hZ.alike A1 (by decide)) (fun T vm0 locs k1 n1 X eT hZ hown => stC X B.1 hZ eT A1 (inb_of A3 hj) (g := mkF m pc Ls (.int x :: .int j :: .ref a :: rest)) rfl rfl (hb B.2.1 hd)) (fun h' W => hr h' (Keep.of_wr W) (Arv.set A1 A2 A3 A4 A5 A6 (fits_nar_char x) W i hi hlt))
theorem bastore (B : Bdy p meth c Z EL a0 bytes maxL ret nm) {a : Addr} {kc : ClassId} {z j x : Int32} {vs : List Value} {dv : Value} {i : Nat} (hd : decode bytes pc = .ok (.bastore, 1)) (A : Arv Z h a kc .byte z vs dv) (hj : ¬ j < 0 ∧ j < z) (hsafe : a ∈ S)
    (hr : ∀ h', Keep h h' [a] → Arv Z h' a kc .byte z (vs.set i (.int (nar .byte x))) dv → Go p l e R s m args below meth c Z EL n0 own Q S h' k n pc' Ls rest) (hp : pc' = pc + 1 := by rfl) (ha : n0 ≤ a := by omega) (hlt : i < vs.length := by simp) (hi : j.toNatClampNeg = i := by decide) : Go p l e R s m args below meth c Z EL n0 own Q S h k n pc Ls (.int x :: .int j :: .ref a :: rest) := by
  subst hp
  obtain ⟨cl, A1, A2, A3, A4, A5, A6⟩ := A
  exact wrote ha (fun vm0 hZ SL => (SL a hsafe).2) (fun T vm0 locs k1 n1 X eT hZ hown => stB X B.1 hZ eT A1 (inb_of A3 hj) (g := mkF m pc Ls (.int x :: .int j :: .ref a :: rest)) rfl rfl (hb B.2.1 hd)) (fun h' W => hr h' (Keep.of_wr W) (Arv.set A1 A2 A3 A4 A5 A6 (fits_nar_byte x) W i hi hlt))
theorem arrlen (B : Bdy p meth c Z EL a0 bytes maxL ret nm) {a : Addr} {kc : ClassId} {ty : FieldType} {z : Int32} {vs : List Value} {dv : Value} (hd : decode bytes pc = .ok (.arraylength, 1)) (A : Arv Z h a kc ty z vs dv) (hr : Go p l e R s m args below meth c Z EL n0 own Q S h k n pc' Ls (.int z :: rest)) (hp : pc' = pc + 1 := by rfl) : Go p l e R s m args below meth c Z EL n0 own Q S h k n pc Ls (.ref a :: rest) := by
  subst hp
  obtain ⟨cl, A1, A2, A3, A4, A5, A6⟩ := A
  exact warm hr fun T vm0 locs k1 n1 X eT hZ hown _ => ⟨T, X, eT, fun t q => X.arraylength B.1 (by rw [eT]; exact A1.1) (State.isArrayOf_alike hZ.alike A1.2.1) (g := mkF m pc Ls (.ref a :: rest)) rfl rfl (hb B.2.1 hd) t (by rw [len_of A3 A4]; exact q)⟩
theorem caload (B : Bdy p meth c Z EL a0 bytes maxL ret nm) {a : Addr} {kc : ClassId} {z j : Int32} {vs : List Value} {dv v : Value} (hd : decode bytes pc = .ok (.caload, 1)) (A : Arv Z h a kc .char z vs dv) (hj : ¬ j < 0 ∧ j < z) (hv : vs.getD j.toNatClampNeg dv = v) (hr : Go p l e R s m args below meth c Z EL n0 own Q S h k n pc' Ls (v :: rest)) (hp : pc' = pc + 1 := by rfl) : Go p l e R s m args below meth c Z EL n0 own Q S h k n pc Ls (.int j :: .ref a :: rest) := by
  subst hp
  obtain ⟨cl, A1, A2, A3, A4, A5, A6⟩ := A
  exact warm hr fun T vm0 locs k1 n1 X eT hZ hown _ => ⟨T, X, eT, fun t q => X.caload B.1 (by rw [eT]; exact A1.1) (State.isArrayOf_alike hZ.alike A1.2.1) A1.2.2 (inb_of A3 hj) (Has.at A5 (inb_of A3 hj) hv) (g := mkF m pc Ls (.int j :: .ref a :: rest)) rfl rfl (hb B.2.1 hd) t q⟩
theorem baload (B : Bdy p meth c Z EL a0 bytes maxL ret nm) {a : Addr} {kc : ClassId} {z j : Int32} {vs : List Value} {dv v : Value} (hd : decode bytes pc = .ok (.baload, 1)) (A : Arv Z h a kc .byte z vs dv) (hj : ¬ j < 0 ∧ j < z) (hv : vs.getD j.toNatClampNeg dv = v) (hr : Go p l e R s m args below meth c Z EL n0 own Q S h k n pc' Ls (v :: rest)) (hp : pc' = pc + 1 := by rfl) : Go p l e R s m args below meth c Z EL n0 own Q S h k n pc Ls (.int j :: .ref a :: rest) := by
  subst hp
  obtain ⟨cl, A1, A2, A3, A4, A5, A6⟩ := A
  exact warm hr fun T vm0 locs k1 n1 X eT hZ hown _ => ⟨T, X, eT, fun t q => X.baloadBytes B.1 (by rw [eT]; exact A1.1) (State.isArrayOf_alike hZ.alike A1.2.1) A1.2.2 (inb_of A3 hj) (Has.at A5 (inb_of A3 hj) hv) (g := mkF m pc Ls (.int j :: .ref a :: rest)) rfl rfl (hb B.2.1 hd) t q⟩
theorem objInit (B : Bdy p meth c Z EL a0 bytes maxL ret nm) {index W : Nat} {a : Addr} (hd : decode bytes pc = .ok (.invokespecial index, 3)) (w1 : (Jvm.Cond.methodLink own index Lib.objectInit).before a0 Z = true) (w2 : (Jvm.Cond.instanceMethod Lib.objectInit).before a0 Z = true) (w3 : (Jvm.Cond.code Lib.objectInit ⟨#[0xb1]⟩ 1 none).before a0 Z = true) (hr : Go p l e R s m args below meth c Z EL n0 own Q S h k n pc' Ls rest) (hp : pc' = pc + 3 := by rfl) (hsz : Ls.size = maxL := by rfl) (hW : (rest.map fun v => v.category).sum ≤ W := by exact Nat.le_of_eq rfl) (hf : 1 ≤ R.frames := by decide) (hl : W + 12 ≤ R.locals := by decide) : Go p l e R s m args below meth c Z EL n0 own Q S h k n pc Ls (.ref a :: rest) := by
  subst hp
  exact warm hr fun T vm0 locs k1 n1 X eT hZ hown _ => initO X B.1 hZ hown w1 w2 w3 eT (g := mkF m pc Ls (.ref a :: rest)) rfl (by rw [B.2.2.1]; exact hsz) rfl (hb B.2.1 hd) hf (W := W) (by show 2 * 0 + _ ≤ _; omega) hl
/-- System.arraycopy over bytes -/
theorem acopy (B : Bdy p meth c Z EL a0 bytes maxL ret nm) {index W : Nat} {a b : Addr} {ka kb : ClassId} {z z' sp dp nn : Int32} {vs vd us : List Value} {dv dd : Value} (hd : decode bytes pc = .ok (.invokestatic index, 3)) (w1 : (Jvm.Cond.methodLink own index Jvm.Stand.acN).before a0 Z = true) (w2 : (Jvm.Cond.native Jvm.Stand.acN).before a0 Z = true) (w3 : (Jvm.Cond.static Jvm.Stand.acN).before a0 Z = true) (w4 : (Jvm.Cond.initialized "java/lang/System").before a0 Z = true)
    (A : Arv Z h a ka .byte z vs dv) (D : Arv Z h b kb .byte z' vd dd) (hsafe : b ∈ S) (hr : ∀ h', Keep h h' [b] → Arv Z h' b kb .byte z' us dd → Go p l e R s m args below meth c Z EL n0 own Q S h' k n pc' Ls rest) (hp : pc' = pc + 3 := by rfl) (hsz : Ls.size = maxL := by rfl) (ha : n0 ≤ b := by omega) (h1 : ¬ sp < 0 := by decide) (h2 : ¬ dp < 0 := by decide) (h3 : ¬ nn < 0 := by decide) (h4 : sp.toNatClampNeg + nn.toNatClampNeg ≤ z.toNatClampNeg := by decide) (h5 : dp.toNatClampNeg + nn.toNatClampNeg ≤ z'.toNatClampNeg := by decide) (hl : dp.toNatClampNeg + nn.toNatClampNeg ≤ vd.length := by decide)
    (hus : vd.take dp.toNatClampNeg ++ ((List.range nn.toNatClampNeg).map fun i => vs.getD (sp.toNatClampNeg + i) dv) ++ vd.drop (dp.toNatClampNeg + nn.toNatClampNeg) = us := by rfl) (hW : (rest.map fun v => v.category).sum ≤ W := by exact Nat.le_of_eq rfl) (hf : 1 ≤ R.frames := by decide) (hlo : W + (nativeFrameWords "java/lang/System" "arraycopy" 5 + 11) ≤ R.locals := by decide) : Go p l e R s m args below meth c Z EL n0 own Q S h k n pc Ls (.int nn :: .int dp :: .ref b :: .int sp :: .ref a :: rest) := by
  subst hp
  intro T ⟨locs, vm0, k0, k1, n1, q1, q2, X, eT, hS, hk0, hZ, hown, N, O, C, SL⟩
  obtain ⟨T', h', L, X', e', N', K, A', sp⟩ := cpA X B.1 hZ hown w1 w2 w3 w4 eT A D (Or.inl ⟨rfl, rfl⟩) h1 h2 h3 h4 h5 rfl hl N ha (g := mkF m pc Ls (.int nn :: .int dp :: .ref b :: .int sp :: .ref a :: rest)) rfl (by rw [B.2.2.1]; exact hsz) rfl (hb B.2.1 hd) hf (W := W) (by show 2 * 0 + _ ≤ _; omega) hlo
  have hs1 : ∀ x ∈ [b], Safe Z EL vm0 h x := fun x hx => by rw [List.mem_singleton.mp hx]; exact (SL b hsafe).2
  have A := CHr.keep (EL := EL) (vm := vm0) K hs1 C.1
  rw [hus] at A'
  obtain ⟨s2, o, q, r2⟩ := hr h' K A' T' ⟨L, vm0, k0, k1, n1, q1, q2, X', e', hS, Nat.le_trans hk0 K.1, hZ, hown, N', O.keep K (fun x hx => by rw [List.mem_singleton.mp hx]; exact ha), C.trans A, SL.chr A⟩
  exact ⟨s2, o, sp _ q, r2⟩
theorem ldcText (B : Bdy p meth c Z EL a0 bytes maxL ret nm) {index nn : Nat} {text : String} (hd : decode bytes pc = .ok (.ldc index, 2)) (w : (Jvm.Cond.stringLink own index text).before a0 Z = true) (hmem : (own, index) ∈ EL) {vs : List Value} {z : Int32} (ht : (∀ c ∈ text.toList, c.toNat < 256) ∧ text.toList.map (fun c => Value.int (Jvm.Lit.byteI c.toNat.toUInt16)) = vs) (hz : ¬ z < 0) (hlz : z.toNatClampNeg = vs.length) 
    (hr : ∀ (h' : Heap) (a b : Nat) (kb : ClassId), Keep h h' [] → Exa Z h' a "java/lang/String" → Fld Z h' a "java/lang/String" "coder" "B" (.int 0) → Fld Z h' a "java/lang/String" "value" "[B" (.ref b) → Arv Z h' b kb .byte z vs (.int 0) → (∀ x ∈ S, x ≠ a ∧ x ≠ b) → Go p l e R s m args below meth c Z EL n0 own Q S h' k' n' pc' Ls (.ref a :: st)) (hp : pc' = pc + 2 := by rfl) (hk : k + 2 ≤ k' := by decide) (hn : n + (nn + 4) ≤ n' := by decide) (hkR : k' ≤ R.cells := by decide) (hnR : n' ≤ R.slots := by decide) (hnn : 4 * text.toList.length ≤ nn := by decide) (hbig : nn ≤ 536870912 := by decide) : Go p l e R s m args below meth c Z EL n0 own Q S h k n pc Ls st := by
  subst hp
  intro T ⟨locs, vm0, k0, k1, n1, q1, q2, X, eT, hS, hk0, hZ, hown, N, O, C, SL⟩
  obtain ⟨a, T', h', k2, b, kb, X', e', E, hS', hk', hZ', hown', f1, f2, f3, f4, -, -, C', -, ne, sp⟩ := ldcCH (EL := EL) X B.1 hZ hown w B.2.2.2.2.2.2.2 eT hS hk0 B.2.2.2.2.2.2.1 hmem C.1 ht hz hlz (g := mkF m pc Ls st) rfl (hb B.2.1 hd) hnn hbig (by omega) (by omega)
  have SL' := SL.chr C'
  obtain ⟨s2, o, q, r2⟩ := hr h' a b kb (keepE E) f1 f2 f3 f4 (fun x hx => ne x (SL' x hx).2) T' ⟨locs, T'.vm, k2, k1 + 2, n1 + (nn + 4), by omega, by omega, X', e', hS', hk', hZ', hown', N, O.ext E, C.trans C', SL'⟩
  exact ⟨s2, o, sp _ q, r2⟩
theorem finish (B : Bdy p meth c Z EL a0 bytes maxL ret nm) {v : Option Value} (hv : ret = none → v = none) (hQ : Q v h S') 
    (sp : ∀ (s' T : State) (locs : List Loc) (k1 n1 : Nat) (fs : List Frame), Stand p l e R s' m args below meth c T locs k1 n1 → (∀ (f : JFrame) (acts : List Action), f.method = m → f.locked = none → f.entered = [] → (doReturn e (T.setTop f) acts v).1 = T.setFrames fs) → Steps p.tables e below (T.setTop (mkF m pc Ls st)) (T.setFrames fs)) (hkR : k ≤ R.cells := by decide) (hnR : n ≤ R.slots := by decide) (hsub : ∀ x ∈ S', x ∈ S := by simp) : Go p l e R s m args below meth c Z EL n0 own Q S h k n pc Ls st := by
  intro T ⟨locs, vm0, k0, k1, n1, q1, q2, X, eT, hS, hk0, hZ, hown, N, O, C, SL⟩
  obtain ⟨fs, hr, hrun, hended, hE⟩ := X.leaveW (v := v) hS (by rw [eT]; exact hk0) (fun z => hv (B.2.2.2.1.symm.trans z)) B.2.2.2.2.2.1
  have A := CHv.at X hZ B.2.2.2.2.2.2.1 C.1
  subst eT
  exact ⟨_, _, sp _ T locs k1 n1 fs X hr, hrun, hended, v, locs, S', rfl, ⟨hQ, N, O, (SL.chr A).sub hsub⟩, C.trans A, hE.1, hE.2.1, hE.2.2.1, hE.2.2.2.mono (by omega) (by omega)⟩
theorem retV (B : Bdy p meth c Z EL a0 bytes maxL ret nm) (hd : decode bytes pc = .ok (.return_, 1)) (hQ : Q none h S') (hkR : k ≤ R.cells := by decide) (hnR : n ≤ R.slots := by decide) (hret : ret = none := by rfl) (hsub : ∀ x ∈ S', x ∈ S := by simp) : Go p l e R s m args below meth c Z EL n0 own Q S h k n pc Ls [] :=
  finish B (fun _ => rfl) hQ (fun s' T locs k1 n1 fs X hr => X.returnOut B.1 (B.2.2.2.1.trans hret) (hb B.2.1 hd) hr) hkR hnR hsub
theorem retA (B : Bdy p meth c Z EL a0 bytes maxL ret nm) {t : FieldType} {w : Value} (hd : decode bytes pc = .ok (.areturn, 1)) (hQ : Q (some w) h S') (hkR : k ≤ R.cells := by decide) (hnR : n ≤ R.slots := by decide) (hret : ret = some t := by rfl) (hsub : ∀ x ∈ S', x ∈ S := by simp) (hw : w.isRef = true := by rfl) (hnn : narrow t w = w := by rfl) (ht : t.isReference = true := by rfl) : Go p l e R s m args below meth c Z EL n0 own Q S h k n pc Ls (w :: rest) :=
  finish B (fun z => by rw [hret] at z; cases z) hQ (fun s' T locs k1 n1 fs X hr => retOut X B.1 (B.2.2.2.1.trans hret) hnn (Or.inr (Or.inr (Or.inr (Or.inr ⟨rfl, ht, hw⟩)))) (hb B.2.1 hd) hr) hkR hnR hsub
theorem retI (B : Bdy p meth c Z EL a0 bytes maxL ret nm) {t : FieldType} {w : Int32} (hd : decode bytes pc = .ok (.ireturn, 1)) (hQ : Q (some (.int w)) h S') (hkR : k ≤ R.cells := by decide) (hnR : n ≤ R.slots := by decide) (hret : ret = some t := by rfl) (hsub : ∀ x ∈ S', x ∈ S := by simp) (hnn : narrow t (.int w) = .int w := by rfl) (ht : t = .int ∨ t = .boolean ∨ t = .byte ∨ t = .char ∨ t = .short := by simp) : Go p l e R s m args below meth c Z EL n0 own Q S h k n pc Ls (.int w :: rest) :=
  finish B (fun z => by rw [hret] at z; cases z) hQ (fun s' T locs k1 n1 fs X hr => retOut X B.1 (B.2.2.2.1.trans hret) hnn (Or.inl ⟨rfl, ht, _, rfl⟩) (hb B.2.1 hd) hr) hkR hnR hsub
def Str (Z : State) (h : Heap) (a t : Addr) (kb : ClassId) (cod z : Int32) (vs : List Value) : Prop := Exa Z h a "java/lang/String" ∧ Fld Z h a "java/lang/String" "coder" "B" (.int cod) ∧ Fld Z h a "java/lang/String" "value" "[B" (.ref t) ∧ Arv Z h t kb .byte z vs (.int 0)
def Rng (cs : List Int32) : Prop := ∀ x ∈ cs, ¬ x < (0 : Int32) ∧ ¬ (65535 : Int32) < x
def Lat (cs : List Int32) : Prop := ∀ x ∈ cs, ¬ (255 : Int32) < x
def Chs (Z : State) (h : Heap) (a t : Addr) (kb : ClassId) (cs : List Int32) : Prop := Exa Z h a "java/lang/String" ∧ Fld Z h a "java/lang/String" "value" "[B" (.ref t) ∧ Rng cs ∧
  ((Fld Z h a "java/lang/String" "coder" "B" (.int 0) ∧ Arv Z h t kb .byte (Int32.ofNat cs.length) (cs.map fun x => .int x.toInt8.toInt32) (.int 0) ∧ Lat cs) ∨
   (Fld Z h a "java/lang/String" "coder" "B" (.int 1) ∧ Arv Z h t kb .byte (Int32.ofNat (2 * cs.length)) (cs.flatMap fun x => [.int x.toInt8.toInt32, .int (x >>> ((8 : Int32) &&& 31)).toInt8.toInt32]) (.int 0) ∧ ∃ x ∈ cs, (255 : Int32) < x))
theorem Chs.keep {a t : Addr} {kb : ClassId} {cs : List Int32} {ws : List Addr} (F : Chs Z h a t kb cs) (K : Keep h h' ws) (qa : a ∉ ws) (qt : t ∉ ws) : Chs Z h' a t kb cs := by
  obtain ⟨E, V, r, ⟨C, A, L⟩ | ⟨C, A, L⟩⟩ := F
  · exact ⟨E.keep K, V.keep K qa, r, Or.inl ⟨C.keep K qa, A.keep K qt, L⟩⟩
  · exact ⟨E.keep K, V.keep K qa, r, Or.inr ⟨C.keep K qa, A.keep K qt, L⟩⟩
theorem Chs.lt {a t : Addr} {kb : ClassId} {cs : List Int32} (F : Chs Z h a t kb cs) : a < h.size := F.1.lt
theorem Chs.ltt {a t : Addr} {kb : ClassId} {cs : List Int32} (F : Chs Z h a t kb cs) : t < h.size := by
  obtain ⟨E, V, r, ⟨C, A, L⟩ | ⟨C, A, L⟩⟩ := F
  · exact A.lt
  · exact A.lt
def Glo (Z : State) (cz : Int32) (sf : Value) : Prop := Sta Z Z.heap "java/lang/String" "COMPACT_STRINGS" "Z" (.int cz) ∧ cz ≠ 0 ∧ Sta Z Z.heap "jdk/internal/util/Preconditions" "SIOOBE_FORMATTER" "Ljava/util/function/BiFunction;" sf ∧ sf.isRef = true
theorem nnAnd (x y : Int32) : (x &&& y).toBitVec.toNat ≤ y.toBitVec.toNat := by
  have : (x &&& y).toBitVec.toNat = x.toBitVec.toNat &&& y.toBitVec.toNat := by simp
  rw [this]; exact Nat.and_le_right
theorem toInt_small {x : Int32} {n : Nat} (h : x.toBitVec.toNat ≤ n) (hn : n < 2147483648) : x.toInt = x.toBitVec.toNat := by
  show x.toBitVec.toInt = _
  rw [BitVec.toInt_eq_toNat_of_lt (by omega)]
/-- x &&& y for y from 0: from 0 to y -/
theorem and_rng (x : Int32) {y : Int32} {n : Nat} (hy : y.toBitVec.toNat = n) (hn : n < 2147483648) : 0 ≤ (x &&& y).toInt ∧ (x &&& y).toInt ≤ n := by
  have h := nnAnd x y
  rw [hy] at h
  have := toInt_small h hn
  omega
theorem and255 (x : Int32) : 0 ≤ (x &&& 255).toInt ∧ (x &&& 255).toInt ≤ 255 := and_rng x (n := 255) (by decide) (by decide)
theorem cnarrow {c : Int32} (hc : nar .char c = c) : narrow .char (.int c) = .int c := congrArg Value.int hc
theorem rng255 {x : Int32} (h0 : ¬ x < (0 : Int32)) (h1 : ¬ (255 : Int32) < x) : 0 ≤ x.toInt ∧ x.toInt ≤ 255 := by
  rw [Int32.lt_iff_toInt_lt, show (0 : Int32).toInt = 0 from by decide] at h0
  rw [Int32.lt_iff_toInt_lt, show (255 : Int32).toInt = 255 from by decide] at h1
  omega
theorem ofRng {x : Int32} {n : Nat} (hn : n < 2147483648) (h : 0 ≤ x.toInt ∧ x.toInt ≤ n) : ∃ k : Nat, k ≤ n ∧ x = Int32.ofNat k := by
  refine ⟨x.toInt.toNat, by omega, Int32.toInt_inj.mp ?_⟩
  rw [Int32.toInt_ofNat_of_lt (by omega)]; omega
theorem all256 (P : Int32 → Bool) (h : (List.range 256).all (fun k => P (Int32.ofNat k)) = true) {x : Int32} (h0 : ¬ x < (0 : Int32)) (h1 : ¬ (255 : Int32) < x) : P x = true := by
  obtain ⟨k, hk, rfl⟩ := ofRng (n := 255) (by decide) (by have := rng255 h0 h1; omega)
  exact List.all_eq_true.mp h k (List.mem_range.mpr (by omega))
theorem b255 {x : Int32} (h0 : ¬ x < (0 : Int32)) (h1 : ¬ (255 : Int32) < x) : x.toInt8.toInt32 &&& 255 = x := by
  have := all256 (fun x => x.toInt8.toInt32 &&& 255 == x) (by decide +kernel) h0 h1
  exact eq_of_beq this
theorem c_id {x : Int32} (h0 : ¬ x < (0 : Int32)) (h1 : ¬ (255 : Int32) < x) : x.toUInt32.toUInt16.toUInt32.toInt32 = x := by
  have := all256 (fun x => x.toUInt32.toUInt16.toUInt32.toInt32 == x) (by decide +kernel) h0 h1
  exact eq_of_beq this
theorem nar_id {x : Int32} (h0 : ¬ x < (0 : Int32)) (h1 : ¬ (255 : Int32) < x) : nar .char x = x := c_id h0 h1
theorem toNat_rng {x : Int32} {n : Nat} (h0 : 0 ≤ x.toInt) (h1 : x.toInt ≤ n) (hn : n < 2147483648) : x.toBitVec.toNat ≤ n := by
  have e : x.toInt = x.toBitVec.toInt := rfl
  rw [e] at h0 h1
  have hlt := x.toBitVec.isLt
  rw [BitVec.toInt_eq_toNat_cond] at h0 h1
  split at h0 <;> omega
theorem rng65535 {x : Int32} (h0 : ¬ x < (0 : Int32)) (h1 : ¬ (65535 : Int32) < x) : x.toBitVec.toNat ≤ 65535 := by
  rw [Int32.lt_iff_toInt_lt, show (0 : Int32).toInt = 0 from by decide] at h0
  rw [Int32.lt_iff_toInt_lt, show (65535 : Int32).toInt = 65535 from by decide] at h1
  exact toNat_rng (by omega) (by omega) (by decide)
theorem c_id16 {x : Int32} (h0 : ¬ x < (0 : Int32)) (h1 : ¬ (65535 : Int32) < x) : x.toUInt32.toUInt16.toUInt32.toInt32 = x := by
  have h := rng65535 h0 h1
  apply Int32.toBitVec_inj.mp
  apply BitVec.eq_of_toNat_eq
  show (x.toUInt32.toUInt16.toUInt32).toNat = x.toUInt32.toNat
  rw [UInt16.toNat_toUInt32, UInt32.toNat_toUInt16]
  have : x.toUInt32.toNat = x.toBitVec.toNat := rfl
  omega
theorem shr0 (x : Int32) : x >>> ((0 : Int32) &&& 31) = x := by
  apply Int32.toBitVec_inj.mp
  simp
theorem nar_id16 {x : Int32} (h0 : ¬ x < (0 : Int32)) (h1 : ¬ (65535 : Int32) < x) : nar .char x = x := c_id16 h0 h1
theorem nar_b (x : Int32) : nar .byte x.toInt8.toInt32 = x.toInt8.toInt32 := by simp [nar]
theorem Go.loop {α : Type} {pc1 : Nat} (I : Nat → α → Heap → Prop) (F : α → Array Slot) (hs : ∀ i x h, I i x h → (∀ j y h', j < i → I j y h' → Go p l e R s m args below meth c Z EL n0 own Q S h' k n pc1 (F y) []) → Go p l e R s m args below meth c Z EL n0 own Q S h k n pc1 (F x) []) (i : Nat) (x : α) (h0 : I i x h) : Go p l e R s m args below meth c Z EL n0 own Q S h k n pc1 (F x) [] := by
  have H : ∀ t i x h, i < t → I i x h → Go p l e R s m args below meth c Z EL n0 own Q S h k n pc1 (F x) [] := by
    intro t
    induction t with
    | zero => intro i x h q; exact absurd q (Nat.not_lt_zero _)
    | succ t ih => intro i x h q r; exact hs i x h r fun j y h' q' r' => ih j y h' (by omega) r'
  exact H (i + 1) i x h (Nat.lt_succ_self _) h0
def UI (u : Slot) : Prop := u = .unset ∨ ∃ y : Int32, u = .val (.int y)
theorem nI {i : Nat} (hi : i < 2147483648) : (Int32.ofNat i).toInt = i := Int32.toInt_ofNat_of_lt hi
theorem nlt {i n : Nat} (hi : i < 2147483648) (hn : n < 2147483648) : (Int32.ofNat i < Int32.ofNat n) ↔ i < n := by
  rw [Int32.lt_iff_toInt_lt, nI hi, nI hn]; omega
theorem nlT {i n : Nat} (h : i < n) (hn : n ≤ 128 := by omega) : Int32.ofNat i < Int32.ofNat n := (nlt (by omega) (by omega)).mpr h
theorem nlF {i n : Nat} (h : ¬ i < n) (hi : i ≤ 128 := by omega) : ¬ Int32.ofNat i < Int32.ofNat n := fun q => h ((nlt (by omega) (by omega)).mp q)
theorem nc {i : Nat} (hi : i ≤ 128 := by omega) : (Int32.ofNat i).toNatClampNeg = i := by
  simp only [Int32.toNatClampNeg, nI (i := i) (by omega)]; omega
theorem nn {i : Nat} (hi : i ≤ 128 := by omega) : ¬ Int32.ofNat i < 0 := by
  rw [Int32.lt_iff_toInt_lt, nI (by omega)]; simp
theorem nS (i : Nat) : Int32.ofNat i + 1 = Int32.ofNat (i + 1) := by
  rw [Int32.ofNat_add]; rfl
theorem nE {i n : Nat} (hi : i ≤ 128 := by omega) (hn : n ≤ 128 := by omega) (h : i ≠ n := by omega) : ¬ Int32.ofNat i = Int32.ofNat n := fun q => by
  have := congrArg Int32.toInt q
  rw [nI (by omega), nI (by omega)] at this; omega
theorem nsub {i n : Nat} (h : i ≤ n) : Int32.ofNat n - Int32.ofNat i = Int32.ofNat (n - i) := by
  have : Int32.ofNat n = Int32.ofNat (n - i) + Int32.ofNat i := by rw [← Int32.ofNat_add]; congr 1; omega
  rw [this]; simp
theorem tk {α : Type} {l : List α} {i : Nat} {b z : α} (h : l[i]? = some b) : (l.take i ++ [z]).set i b = l.take (i + 1) := by
  obtain ⟨hi, rfl⟩ := List.getElem?_eq_some_iff.mp h
  rw [List.take_add_one, h]
  simp [Nat.min_eq_left (Nat.le_of_lt hi)]
theorem pad1 {α : Type} (l : List α) (dv : α) : ∀ i, (l ++ [dv]).getD i dv = l.getD i dv := fun i => by
  simp only [List.getD_eq_getElem?_getD]
  by_cases q : i < l.length
  · rw [List.getElem?_append_left q]
  · rw [List.getElem?_append_right (Nat.le_of_not_lt q), List.getElem?_eq_none (Nat.le_of_not_lt q)]
    cases i - l.length <;> simp
theorem gD {α : Type} {l : List α} {i : Nat} {b dv : α} (h : l[i]? = some b) : l.getD i dv = b := by rw [List.getD_eq_getElem?_getD, h]; rfl
abbrev CA (cs : List Int32) : List Value := cs.map Value.int
abbrev LB (cs : List Int32) : List Value := cs.map fun x => .int x.toInt8.toInt32
theorem CAa {cs : List Int32} {j : Nat} {x : Int32} (h : cs[j]? = some x) : (CA cs)[j]? = some (.int x) := by simp [CA, h]
theorem LBa {cs : List Int32} {j : Nat} {x : Int32} (h : cs[j]? = some x) : (LB cs)[j]? = some (.int x.toInt8.toInt32) := by simp [LB, h]
theorem take1 {cs : List Int32} {j : Nat} {x : Int32} {P : Int32 → Prop} (h : cs[j]? = some x) (a : ∀ y ∈ cs.take j, P y) (b : P x) : ∀ y ∈ cs.take (j + 1), P y := by
  intro y hy
  rw [List.take_add_one, h] at hy
  rcases List.mem_append.mp hy with q | q
  · exact a y q
  · simp at q; exact q ▸ b
theorem takeN {α : Type} {l : List α} {n : Nat} (h : l.length ≤ n) : l.take n = l := List.take_of_length_le h
theorem cal0' : ∀ i < 65, Jvm.Free.XT.ushr (Int32.ofNat i - Int32.ofNat i) 31 = 0 := by decide +kernel
theorem cal0 {i : Nat} (h : i ≤ 64 := by omega) : Jvm.Free.XT.ushr (Int32.ofNat i - Int32.ofNat i) 31 = 0 := cal0' i (by omega)
theorem Chs.nil {a t : Addr} {kb : ClassId} (E : Exa Z h a "java/lang/String") (V : Fld Z h a "java/lang/String" "value" "[B" (.ref t)) (C : Fld Z h a "java/lang/String" "coder" "B" (.int 0)) (A : Arv Z h t kb .byte 0 [] (.int 0)) : Chs Z h a t kb [] := ⟨E, V, fun _ q => (nomatch q), Or.inl ⟨C, A, fun _ q => (nomatch q)⟩⟩
theorem cpy {α : Type} {vs : List α} {dv : α} {i n : Nat} (h : i + n ≤ vs.length) : ((List.replicate n dv).take 0 ++ ((List.range n).map fun k => vs.getD (i + k) dv) ++ (List.replicate n dv).drop (0 + n)) = (vs.drop i).take n := by
  apply List.ext_getElem?
  intro k
  simp only [List.take_zero, List.nil_append, Nat.zero_add, List.drop_replicate, Nat.sub_self, List.replicate_zero, List.append_nil, List.getElem?_map, List.getElem?_take, List.getElem?_drop]
  by_cases q : k < n
  · rw [if_pos q, List.getElem?_range q]
    simp [List.getD_eq_getElem?_getD, List.getElem?_eq_getElem (show i + k < vs.length by omega)]
  · rw [if_neg q, List.getElem?_eq_none (by simp; omega)]; rfl
theorem nz {i : Nat} (h : Int32.ofNat i = 0) (hi : i ≤ 128) : i = 0 := by
  have := congrArg Int32.toInt h
  rw [nI (by omega)] at this
  have e : (0 : Int32).toInt = 0 := rfl
  omega
abbrev sl {α : Type} (cs : List α) (i n : Nat) : List α := (cs.drop i).take n
theorem sl_len {α : Type} {cs : List α} {i n : Nat} (h : i + n ≤ cs.length) : (sl cs i n).length = n := by simp; omega
theorem sl_mem {α : Type} {cs : List α} {i n : Nat} {x : α} (h : x ∈ sl cs i n) : x ∈ cs := List.mem_of_mem_drop (List.mem_of_mem_take h)
theorem sl_at {α : Type} {cs : List α} {i n j : Nat} {x : α} (h : (sl cs i n)[j]? = some x) : j < n ∧ cs[i + j]? = some x := by
  simp only [sl, List.getElem?_take, List.getElem?_drop] at h
  split at h
  · exact ⟨‹_›, h⟩
  · cases h
theorem nadd (i n : Nat) : Int32.ofNat i + Int32.ofNat n = Int32.ofNat (i + n) := (Int32.ofNat_add i n).symm
theorem Arv.slL {r i n : Nat} {k : ClassId} {cs : List Int32} (A : Arv Z h r k .byte (Int32.ofNat (i + n - i)) (((LB cs).drop i).take (i + n - i)) (.int 0)) (q : i + n ≤ cs.length) : Arv Z h r k .byte (Int32.ofNat (sl cs i n).length) (LB (sl cs i n)) (.int 0) := by
  rw [show i + n - i = n from by omega] at A
  rw [sl_len q]
  have e : LB (sl cs i n) = ((LB cs).drop i).take n := by simp [LB, sl, List.map_drop, List.map_take]
  rw [e]; exact A
theorem nEq {i n : Nat} (h : Int32.ofNat i = Int32.ofNat n) (hi : i ≤ 128 := by omega) (hn : n ≤ 128 := by omega) : i = n := by
  have := congrArg Int32.toInt h
  rw [nI (by omega), nI (by omega)] at this
  omega
theorem Chs.lat {a t : Addr} {kb : ClassId} {cs : List Int32} (F : Chs Z h a t kb cs) (hL : Lat cs) : Fld Z h a "java/lang/String" "coder" "B" (.int 0) ∧ Arv Z h t kb .byte (Int32.ofNat cs.length) (LB cs) (.int 0) := by
  rcases F.2.2.2 with ⟨c, A, _⟩ | ⟨_, _, y, u1, u2⟩
  · exact ⟨c, A⟩
  · exact absurd u2 (hL y u1)
theorem nlm {i n : Nat} (h : Int32.ofNat i < Int32.ofNat n) (hi : i ≤ 128 := by omega) (hn : n ≤ 128 := by omega) : i < n := (nlt (by omega) (by omega)).mp h
theorem nlmF {i n : Nat} (h : ¬ Int32.ofNat i < Int32.ofNat n) (hi : i ≤ 128 := by omega) (hn : n ≤ 128 := by omega) : n ≤ i := Nat.le_of_not_lt fun q => h ((nlt (by omega) (by omega)).mpr q)
theorem npred {i : Nat} (h : 0 < i) : Int32.ofNat i + (-1) = Int32.ofNat (i - 1) := by
  have : Int32.ofNat i = Int32.ofNat (i - 1) + 1 := by rw [nS]; congr 1; omega
  rw [this, Int32.add_assoc]; simp
theorem andN (x : Int32) {y : Int32} {n : Nat} (hy : y.toBitVec.toNat = n) (hn : n < 2147483648) : ∃ k : Nat, k ≤ n ∧ x &&& y = Int32.ofNat k := ofRng hn (and_rng x hy hn)
theorem Rng.app {cs ds : List Int32} (a : Rng cs) (b : Rng ds) : Rng (cs ++ ds) := fun y q => (List.mem_append.mp q).elim (a y) (b y)
theorem Lat.app {cs ds : List Int32} (a : Lat cs) (b : Lat ds) : Lat (cs ++ ds) := fun y q => (List.mem_append.mp q).elim (a y) (b y)
end Rules
end Jvm.Ow
namespace Jvm.Pilot.@@N@@
open Jvm Jvm.ClassFile Sem Op Lib Jvm.Free Jvm.Stand Jvm.LawKit Jvm.RoadKit Bundle Jvm.Pilot.@@N@@.Jvm.D
abbrev EL1 : List (String × Nat) := [("java/lang/StringLatin1", 151), ("com/example/elsewhere/elsewhere/Field$Subfield", 38)]
abbrev Hw (a0 : Array Value) (Z : State) : Prop := ∀ d ∈ tables_1, d.before a0 Z = true
abbrev my0 : MethodName := { cls := "java/lang/StringUTF16", name := "compress", desc := "([CI[BII)I" }
abbrev my1 : MethodName := { cls := "java/lang/StringUTF16", name := "compress", desc := "([CII)[B" }
abbrev my2 : MethodName := { cls := "java/lang/StringUTF16", name := "coderFromArrayLen", desc := "([BI)B" }
abbrev my3 : MethodName := { cls := "java/lang/String", name := "<init>", desc := "([CIILjava/lang/Void;)V" }
abbrev my4 : MethodName := { cls := "java/lang/String", name := "<init>", desc := "([C)V" }
abbrev my5 : MethodName := { cls := "java/lang/String", name := "coder", desc := "()B" }
abbrev my6 : MethodName := { cls := "java/lang/String", name := "length", desc := "()I" }
abbrev my7 : MethodName := { cls := "jdk/internal/util/Preconditions", name := "checkIndex", desc := "(IILjava/util/function/BiFunction;)I" }
abbrev my8 : MethodName := { cls := "java/lang/String", name := "checkIndex", desc := "(II)V" }
abbrev my9 : MethodName := { cls := "java/lang/StringLatin1", name := "charAt", desc := "([BI)C" }
abbrev my10 : MethodName := { cls := "java/lang/String", name := "isLatin1", desc := "()Z" }
abbrev my11 : MethodName := { cls := "java/lang/String", name := "charAt", desc := "(I)C" }
abbrev my12 : MethodName := { cls := "java/lang/Math", name := "min", desc := "(II)I" }
abbrev my13 : MethodName := { cls := "java/util/Arrays", name := "checkLength", desc := "(II)V" }
abbrev my14 : MethodName := { cls := "java/util/Arrays", name := "copyOfRangeByte", desc := "([BII)[B" }
abbrev my15 : MethodName := { cls := "java/util/Arrays", name := "copyOfRange", desc := "([BII)[B" }
abbrev my16 : MethodName := { cls := "java/lang/String", name := "<init>", desc := "([BB)V" }
abbrev my17 : MethodName := { cls := "java/lang/StringLatin1", name := "newString", desc := "([BII)Ljava/lang/String;" }
abbrev my18 : MethodName := { cls := "jdk/internal/util/Preconditions", name := "checkFromToIndex", desc := "(IIILjava/util/function/BiFunction;)I" }
abbrev my19 : MethodName := { cls := "java/lang/String", name := "checkBoundsBeginEnd", desc := "(III)V" }
abbrev my20 : MethodName := { cls := "java/lang/String", name := "substring", desc := "(II)Ljava/lang/String;" }
abbrev my21 : MethodName := { cls := "com/example/elsewhere/elsewhere/SubfieldCleanValuePinLaw", name := "core", desc := "(IIIJJ)C" }
abbrev my22 : MethodName := { cls := "com/example/elsewhere/elsewhere/SubfieldCleanValuePinLaw", name := "pos", desc := "(IIIIICJJ)C" }
abbrev my23 : MethodName := { cls := "com/example/elsewhere/elsewhere/Field$Subfield", name := "endBeforeSpaces", desc := "(II)I" }
abbrev my24 : MethodName := { cls := "java/lang/StringLatin1", name := "canEncode", desc := "(I)Z" }
abbrev my25 : MethodName := { cls := "java/lang/Math", name := "max", desc := "(II)I" }
abbrev my26 : MethodName := { cls := "java/lang/StringLatin1", name := "indexOfChar", desc := "([BIII)I" }
abbrev my27 : MethodName := { cls := "java/lang/StringLatin1", name := "indexOf", desc := "([BIII)I" }
abbrev my28 : MethodName := { cls := "java/lang/String", name := "indexOf", desc := "(II)I" }
abbrev my29 : MethodName := { cls := "java/lang/String", name := "indexOf", desc := "(I)I" }
abbrev my30 : MethodName := { cls := "com/example/elsewhere/elsewhere/Field$Subfield", name := "endBeforeSeparator", desc := "(II)I" }
abbrev my31 : MethodName := { cls := "com/example/elsewhere/elsewhere/Field$Subfield", name := "cleanValue", desc := "()Ljava/lang/String;" }
abbrev my32 : MethodName := { cls := "com/example/elsewhere/elsewhere/SubfieldCleanValuePinLaw", name := "same", desc := "(Ljava/lang/String;[CIII)Z" }
abbrev my33 : MethodName := { cls := "java/lang/Record", name := "<init>", desc := "()V" }
abbrev my34 : MethodName := { cls := "com/example/elsewhere/elsewhere/Field$Subfield", name := "<init>", desc := "(ILjava/lang/String;)V" }
theorem w0 {a0 : Array Value} {Z : State} (hw : Hw a0 Z) : (Jvm.Cond.methodLink "com/example/elsewhere/elsewhere/SubfieldCleanValuePinLaw" (7 : Nat) ({ cls := "java/lang/Math", name := "min", desc := "(II)I" } : Jvm.MethodName)).before a0 Z = true := hw _ (List.mem_of_getElem? (i := 0) rfl)
theorem w1 {a0 : Array Value} {Z : State} (hw : Hw a0 Z) : (Jvm.Cond.static ({ cls := "java/lang/Math", name := "min", desc := "(II)I" } : Jvm.MethodName)).before a0 Z = true := hw _ (List.mem_of_getElem? (i := 1) rfl)
theorem w2 {a0 : Array Value} {Z : State} (hw : Hw a0 Z) : (Jvm.Cond.initialized "java/lang/Math").before a0 Z = true := hw _ (List.mem_of_getElem? (i := 2) rfl)
theorem w3 {a0 : Array Value} {Z : State} (hw : Hw a0 Z) : (Jvm.Cond.code ({ cls := "java/lang/Math", name := "min", desc := "(II)I" } : Jvm.MethodName) jdk_29_method_69_code (2 : Nat) (Option.some Jvm.ClassFile.FieldType.int)).before a0 Z = true := hw _ (List.mem_of_getElem? (i := 3) rfl)
theorem w4 {a0 : Array Value} {Z : State} (hw : Hw a0 Z) : (Jvm.Cond.arrayClass Jvm.ClassFile.FieldType.char).before a0 Z = true := hw _ (List.mem_of_getElem? (i := 4) rfl)
theorem w5 {a0 : Array Value} {Z : State} (hw : Hw a0 Z) : (Jvm.Cond.methodLink "com/example/elsewhere/elsewhere/SubfieldCleanValuePinLaw" (13 : Nat) ({ cls := "com/example/elsewhere/elsewhere/SubfieldCleanValuePinLaw", name := "pos", desc := "(IIIIICJJ)C" } : Jvm.MethodName)).before a0 Z = true := hw _ (List.mem_of_getElem? (i := 5) rfl)
theorem w6 {a0 : Array Value} {Z : State} (hw : Hw a0 Z) : (Jvm.Cond.static ({ cls := "com/example/elsewhere/elsewhere/SubfieldCleanValuePinLaw", name := "pos", desc := "(IIIIICJJ)C" } : Jvm.MethodName)).before a0 Z = true := hw _ (List.mem_of_getElem? (i := 6) rfl)
theorem w7 {a0 : Array Value} {Z : State} (hw : Hw a0 Z) : (Jvm.Cond.initialized "com/example/elsewhere/elsewhere/SubfieldCleanValuePinLaw").before a0 Z = true := hw _ (List.mem_of_getElem? (i := 7) rfl)
theorem w8 {a0 : Array Value} {Z : State} (hw : Hw a0 Z) : (Jvm.Cond.code ({ cls := "com/example/elsewhere/elsewhere/SubfieldCleanValuePinLaw", name := "pos", desc := "(IIIIICJJ)C" } : Jvm.MethodName) method_3_code (10 : Nat) (Option.some Jvm.ClassFile.FieldType.char)).before a0 Z = true := hw _ (List.mem_of_getElem? (i := 8) rfl)
theorem w9 {a0 : Array Value} {Z : State} (hw : Hw a0 Z) : (Jvm.Cond.methodLink "com/example/elsewhere/elsewhere/SubfieldCleanValuePinLaw" (41 : Nat) ({ cls := "com/example/elsewhere/elsewhere/SubfieldCleanValuePinLaw", name := "core", desc := "(IIIJJ)C" } : Jvm.MethodName)).before a0 Z = true := hw _ (List.mem_of_getElem? (i := 9) rfl)
theorem w10 {a0 : Array Value} {Z : State} (hw : Hw a0 Z) : (Jvm.Cond.static ({ cls := "com/example/elsewhere/elsewhere/SubfieldCleanValuePinLaw", name := "core", desc := "(IIIJJ)C" } : Jvm.MethodName)).before a0 Z = true := hw _ (List.mem_of_getElem? (i := 10) rfl)
theorem w11 {a0 : Array Value} {Z : State} (hw : Hw a0 Z) : (Jvm.Cond.code ({ cls := "com/example/elsewhere/elsewhere/SubfieldCleanValuePinLaw", name := "core", desc := "(IIIJJ)C" } : Jvm.MethodName) method_4_code (10 : Nat) (Option.some Jvm.ClassFile.FieldType.char)).before a0 Z = true := hw _ (List.mem_of_getElem? (i := 11) rfl)
theorem w12 {a0 : Array Value} {Z : State} (hw : Hw a0 Z) : (Jvm.Cond.classLink "com/example/elsewhere/elsewhere/SubfieldCleanValuePinLaw" (19 : Nat) "com/example/elsewhere/elsewhere/Field$Subfield").before a0 Z = true := hw _ (List.mem_of_getElem? (i := 12) rfl)
theorem w13 {a0 : Array Value} {Z : State} (hw : Hw a0 Z) : (Jvm.Cond.instantiable "com/example/elsewhere/elsewhere/Field$Subfield" (2 : Nat)).before a0 Z = true := hw _ (List.mem_of_getElem? (i := 13) rfl)
theorem w14 {a0 : Array Value} {Z : State} (hw : Hw a0 Z) : (Jvm.Cond.initialized "com/example/elsewhere/elsewhere/Field$Subfield").before a0 Z = true := hw _ (List.mem_of_getElem? (i := 14) rfl)
theorem w15 {a0 : Array Value} {Z : State} (hw : Hw a0 Z) : (Jvm.Cond.classLink "com/example/elsewhere/elsewhere/SubfieldCleanValuePinLaw" (21 : Nat) "java/lang/String").before a0 Z = true := hw _ (List.mem_of_getElem? (i := 15) rfl)
theorem w16 {a0 : Array Value} {Z : State} (hw : Hw a0 Z) : (Jvm.Cond.instantiable "java/lang/String" (4 : Nat)).before a0 Z = true := hw _ (List.mem_of_getElem? (i := 16) rfl)
theorem w17 {a0 : Array Value} {Z : State} (hw : Hw a0 Z) : (Jvm.Cond.initialized "java/lang/String").before a0 Z = true := hw _ (List.mem_of_getElem? (i := 17) rfl)
theorem w18 {a0 : Array Value} {Z : State} (hw : Hw a0 Z) : (Jvm.Cond.methodLink "com/example/elsewhere/elsewhere/SubfieldCleanValuePinLaw" (23 : Nat) ({ cls := "java/lang/String", name := "<init>", desc := "([C)V" } : Jvm.MethodName)).before a0 Z = true := hw _ (List.mem_of_getElem? (i := 18) rfl)
theorem w19 {a0 : Array Value} {Z : State} (hw : Hw a0 Z) : (Jvm.Cond.instanceMethod ({ cls := "java/lang/String", name := "<init>", desc := "([C)V" } : Jvm.MethodName)).before a0 Z = true := hw _ (List.mem_of_getElem? (i := 19) rfl)
theorem w20 {a0 : Array Value} {Z : State} (hw : Hw a0 Z) : (Jvm.Cond.code ({ cls := "java/lang/String", name := "<init>", desc := "([C)V" } : Jvm.MethodName) jdk_42_method_3_code (2 : Nat) (Option.none : Option Jvm.ClassFile.FieldType)).before a0 Z = true := hw _ (List.mem_of_getElem? (i := 20) rfl)
theorem w21 {a0 : Array Value} {Z : State} (hw : Hw a0 Z) : (Jvm.Cond.methodLink "java/lang/String" (27 : Nat) ({ cls := "java/lang/String", name := "<init>", desc := "([CIILjava/lang/Void;)V" } : Jvm.MethodName)).before a0 Z = true := hw _ (List.mem_of_getElem? (i := 21) rfl)
theorem w22 {a0 : Array Value} {Z : State} (hw : Hw a0 Z) : (Jvm.Cond.instanceMethod ({ cls := "java/lang/String", name := "<init>", desc := "([CIILjava/lang/Void;)V" } : Jvm.MethodName)).before a0 Z = true := hw _ (List.mem_of_getElem? (i := 22) rfl)
theorem w24 {a0 : Array Value} {Z : State} (hw : Hw a0 Z) : (Jvm.Cond.code ({ cls := "java/lang/String", name := "<init>", desc := "([CIILjava/lang/Void;)V" } : Jvm.MethodName) jdk_42_method_149_code (6 : Nat) (Option.none : Option Jvm.ClassFile.FieldType)).before a0 Z = true := hw _ (List.mem_of_getElem? (i := 24) rfl)
theorem w25 {a0 : Array Value} {Z : State} (hw : Hw a0 Z) : (Jvm.Cond.methodLink "java/lang/String" (1 : Nat) ({ cls := "java/lang/Object", name := "<init>", desc := "()V" } : Jvm.MethodName)).before a0 Z = true := hw _ (List.mem_of_getElem? (i := 25) rfl)
theorem w26 {a0 : Array Value} {Z : State} (hw : Hw a0 Z) : (Jvm.Cond.instanceMethod ({ cls := "java/lang/Object", name := "<init>", desc := "()V" } : Jvm.MethodName)).before a0 Z = true := hw _ (List.mem_of_getElem? (i := 26) rfl)
theorem w27 {a0 : Array Value} {Z : State} (hw : Hw a0 Z) : (Jvm.Cond.code ({ cls := "java/lang/Object", name := "<init>", desc := "()V" } : Jvm.MethodName) object_method_1_code (1 : Nat) (Option.none : Option Jvm.ClassFile.FieldType)).before a0 Z = true := hw _ (List.mem_of_getElem? (i := 27) rfl)
theorem w28 {a0 : Array Value} {Z : State} (hw : Hw a0 Z) : (Jvm.Cond.fieldLink "java/lang/String" (38 : Nat) "java/lang/String" "COMPACT_STRINGS" "Z").before a0 Z = true := hw _ (List.mem_of_getElem? (i := 28) rfl)
theorem w29 {a0 : Array Value} {Z : State} (hw : Hw a0 Z) : (Jvm.Cond.methodLink "java/lang/String" (177 : Nat) ({ cls := "java/lang/StringUTF16", name := "compress", desc := "([CII)[B" } : Jvm.MethodName)).before a0 Z = true := hw _ (List.mem_of_getElem? (i := 29) rfl)
theorem w30 {a0 : Array Value} {Z : State} (hw : Hw a0 Z) : (Jvm.Cond.static ({ cls := "java/lang/StringUTF16", name := "compress", desc := "([CII)[B" } : Jvm.MethodName)).before a0 Z = true := hw _ (List.mem_of_getElem? (i := 30) rfl)
theorem w31 {a0 : Array Value} {Z : State} (hw : Hw a0 Z) : (Jvm.Cond.initialized "java/lang/StringUTF16").before a0 Z = true := hw _ (List.mem_of_getElem? (i := 31) rfl)
theorem w32 {a0 : Array Value} {Z : State} (hw : Hw a0 Z) : (Jvm.Cond.code ({ cls := "java/lang/StringUTF16", name := "compress", desc := "([CII)[B" } : Jvm.MethodName) jdk_52_method_16_code (6 : Nat) (Option.some (Jvm.ClassFile.FieldType.array Jvm.ClassFile.FieldType.byte))).before a0 Z = true := hw _ (List.mem_of_getElem? (i := 32) rfl)
theorem w33 {a0 : Array Value} {Z : State} (hw : Hw a0 Z) : (Jvm.Cond.arrayClass Jvm.ClassFile.FieldType.byte).before a0 Z = true := hw _ (List.mem_of_getElem? (i := 33) rfl)
theorem w34 {a0 : Array Value} {Z : State} (hw : Hw a0 Z) : (Jvm.Cond.methodLink "java/lang/StringUTF16" (115 : Nat) ({ cls := "java/lang/StringUTF16", name := "compress", desc := "([CI[BII)I" } : Jvm.MethodName)).before a0 Z = true := hw _ (List.mem_of_getElem? (i := 34) rfl)
theorem w35 {a0 : Array Value} {Z : State} (hw : Hw a0 Z) : (Jvm.Cond.static ({ cls := "java/lang/StringUTF16", name := "compress", desc := "([CI[BII)I" } : Jvm.MethodName)).before a0 Z = true := hw _ (List.mem_of_getElem? (i := 35) rfl)
theorem w36 {a0 : Array Value} {Z : State} (hw : Hw a0 Z) : (Jvm.Cond.code ({ cls := "java/lang/StringUTF16", name := "compress", desc := "([CI[BII)I" } : Jvm.MethodName) jdk_52_method_21_code (7 : Nat) (Option.some Jvm.ClassFile.FieldType.int)).before a0 Z = true := hw _ (List.mem_of_getElem? (i := 36) rfl)
theorem w37 {a0 : Array Value} {Z : State} (hw : Hw a0 Z) : (Jvm.Cond.methodLink "java/lang/String" (47 : Nat) ({ cls := "java/lang/StringUTF16", name := "coderFromArrayLen", desc := "([BI)B" } : Jvm.MethodName)).before a0 Z = true := hw _ (List.mem_of_getElem? (i := 37) rfl)
theorem w38 {a0 : Array Value} {Z : State} (hw : Hw a0 Z) : (Jvm.Cond.static ({ cls := "java/lang/StringUTF16", name := "coderFromArrayLen", desc := "([BI)B" } : Jvm.MethodName)).before a0 Z = true := hw _ (List.mem_of_getElem? (i := 38) rfl)
theorem w39 {a0 : Array Value} {Z : State} (hw : Hw a0 Z) : (Jvm.Cond.code ({ cls := "java/lang/StringUTF16", name := "coderFromArrayLen", desc := "([BI)B" } : Jvm.MethodName) jdk_52_method_15_code (2 : Nat) (Option.some Jvm.ClassFile.FieldType.byte)).before a0 Z = true := hw _ (List.mem_of_getElem? (i := 39) rfl)
theorem w40 {a0 : Array Value} {Z : State} (hw : Hw a0 Z) : (Jvm.Cond.fieldLink "java/lang/String" (15 : Nat) "java/lang/String" "coder" "B").before a0 Z = true := hw _ (List.mem_of_getElem? (i := 40) rfl)
theorem w41 {a0 : Array Value} {Z : State} (hw : Hw a0 Z) : (Jvm.Cond.laysFinal "java/lang/String" "java/lang/String" "coder" "B").before a0 Z = true := hw _ (List.mem_of_getElem? (i := 41) rfl)
theorem w42 {a0 : Array Value} {Z : State} (hw : Hw a0 Z) : (Jvm.Cond.fieldLink "java/lang/String" (9 : Nat) "java/lang/String" "value" "[B").before a0 Z = true := hw _ (List.mem_of_getElem? (i := 42) rfl)
theorem w43 {a0 : Array Value} {Z : State} (hw : Hw a0 Z) : (Jvm.Cond.laysFinal "java/lang/String" "java/lang/String" "value" "[B").before a0 Z = true := hw _ (List.mem_of_getElem? (i := 43) rfl)
theorem w44 {a0 : Array Value} {Z : State} (hw : Hw a0 Z) : (Jvm.Cond.methodLink "com/example/elsewhere/elsewhere/SubfieldCleanValuePinLaw" (26 : Nat) ({ cls := "com/example/elsewhere/elsewhere/Field$Subfield", name := "<init>", desc := "(ILjava/lang/String;)V" } : Jvm.MethodName)).before a0 Z = true := hw _ (List.mem_of_getElem? (i := 44) rfl)
theorem w45 {a0 : Array Value} {Z : State} (hw : Hw a0 Z) : (Jvm.Cond.instanceMethod ({ cls := "com/example/elsewhere/elsewhere/Field$Subfield", name := "<init>", desc := "(ILjava/lang/String;)V" } : Jvm.MethodName)).before a0 Z = true := hw _ (List.mem_of_getElem? (i := 45) rfl)
theorem w46 {a0 : Array Value} {Z : State} (hw : Hw a0 Z) : (Jvm.Cond.code ({ cls := "com/example/elsewhere/elsewhere/Field$Subfield", name := "<init>", desc := "(ILjava/lang/String;)V" } : Jvm.MethodName) prog_11_method_1_code (3 : Nat) (Option.none : Option Jvm.ClassFile.FieldType)).before a0 Z = true := hw _ (List.mem_of_getElem? (i := 46) rfl)
theorem w47 {a0 : Array Value} {Z : State} (hw : Hw a0 Z) : (Jvm.Cond.methodLink "com/example/elsewhere/elsewhere/Field$Subfield" (1 : Nat) ({ cls := "java/lang/Record", name := "<init>", desc := "()V" } : Jvm.MethodName)).before a0 Z = true := hw _ (List.mem_of_getElem? (i := 47) rfl)
theorem w48 {a0 : Array Value} {Z : State} (hw : Hw a0 Z) : (Jvm.Cond.instanceMethod ({ cls := "java/lang/Record", name := "<init>", desc := "()V" } : Jvm.MethodName)).before a0 Z = true := hw _ (List.mem_of_getElem? (i := 48) rfl)
theorem w50 {a0 : Array Value} {Z : State} (hw : Hw a0 Z) : (Jvm.Cond.initialized "java/lang/Record").before a0 Z = true := hw _ (List.mem_of_getElem? (i := 50) rfl)
theorem w51 {a0 : Array Value} {Z : State} (hw : Hw a0 Z) : (Jvm.Cond.code ({ cls := "java/lang/Record", name := "<init>", desc := "()V" } : Jvm.MethodName) jdk_30_method_1_code (1 : Nat) (Option.none : Option Jvm.ClassFile.FieldType)).before a0 Z = true := hw _ (List.mem_of_getElem? (i := 51) rfl)
theorem w52 {a0 : Array Value} {Z : State} (hw : Hw a0 Z) : (Jvm.Cond.methodLink "java/lang/Record" (1 : Nat) ({ cls := "java/lang/Object", name := "<init>", desc := "()V" } : Jvm.MethodName)).before a0 Z = true := hw _ (List.mem_of_getElem? (i := 52) rfl)
theorem w53 {a0 : Array Value} {Z : State} (hw : Hw a0 Z) : (Jvm.Cond.fieldLink "com/example/elsewhere/elsewhere/Field$Subfield" (7 : Nat) "com/example/elsewhere/elsewhere/Field$Subfield" "code" "I").before a0 Z = true := hw _ (List.mem_of_getElem? (i := 53) rfl)
theorem w54 {a0 : Array Value} {Z : State} (hw : Hw a0 Z) : (Jvm.Cond.laysFinal "com/example/elsewhere/elsewhere/Field$Subfield" "com/example/elsewhere/elsewhere/Field$Subfield" "code" "I").before a0 Z = true := hw _ (List.mem_of_getElem? (i := 54) rfl)
theorem w55 {a0 : Array Value} {Z : State} (hw : Hw a0 Z) : (Jvm.Cond.fieldLink "com/example/elsewhere/elsewhere/Field$Subfield" (13 : Nat) "com/example/elsewhere/elsewhere/Field$Subfield" "value" "Ljava/lang/String;").before a0 Z = true := hw _ (List.mem_of_getElem? (i := 55) rfl)
theorem w56 {a0 : Array Value} {Z : State} (hw : Hw a0 Z) : (Jvm.Cond.laysFinal "com/example/elsewhere/elsewhere/Field$Subfield" "com/example/elsewhere/elsewhere/Field$Subfield" "value" "Ljava/lang/String;").before a0 Z = true := hw _ (List.mem_of_getElem? (i := 56) rfl)
theorem w57 {a0 : Array Value} {Z : State} (hw : Hw a0 Z) : (Jvm.Cond.methodLink "com/example/elsewhere/elsewhere/SubfieldCleanValuePinLaw" (29 : Nat) ({ cls := "com/example/elsewhere/elsewhere/Field$Subfield", name := "cleanValue", desc := "()Ljava/lang/String;" } : Jvm.MethodName)).before a0 Z = true := hw _ (List.mem_of_getElem? (i := 57) rfl)
theorem w58 {a0 : Array Value} {Z : State} (hw : Hw a0 Z) : (Jvm.Cond.declares ({ cls := "com/example/elsewhere/elsewhere/Field$Subfield", name := "cleanValue", desc := "()Ljava/lang/String;" } : Jvm.MethodName)).before a0 Z = true := hw _ (List.mem_of_getElem? (i := 58) rfl)
theorem w59 {a0 : Array Value} {Z : State} (hw : Hw a0 Z) : (Jvm.Cond.instanceMethod ({ cls := "com/example/elsewhere/elsewhere/Field$Subfield", name := "cleanValue", desc := "()Ljava/lang/String;" } : Jvm.MethodName)).before a0 Z = true := hw _ (List.mem_of_getElem? (i := 59) rfl)
theorem w60 {a0 : Array Value} {Z : State} (hw : Hw a0 Z) : (Jvm.Cond.selects "com/example/elsewhere/elsewhere/Field$Subfield" ({ cls := "com/example/elsewhere/elsewhere/Field$Subfield", name := "cleanValue", desc := "()Ljava/lang/String;" } : Jvm.MethodName) ({ cls := "com/example/elsewhere/elsewhere/Field$Subfield", name := "cleanValue", desc := "()Ljava/lang/String;" } : Jvm.MethodName)).before a0 Z = true := hw _ (List.mem_of_getElem? (i := 60) rfl)
theorem w61 {a0 : Array Value} {Z : State} (hw : Hw a0 Z) : (Jvm.Cond.code ({ cls := "com/example/elsewhere/elsewhere/Field$Subfield", name := "cleanValue", desc := "()Ljava/lang/String;" } : Jvm.MethodName) prog_11_method_2_code (3 : Nat) (Option.some (Jvm.ClassFile.FieldType.object "java/lang/String"))).before a0 Z = true := hw _ (List.mem_of_getElem? (i := 61) rfl)
theorem w62 {a0 : Array Value} {Z : State} (hw : Hw a0 Z) : (Jvm.Cond.methodLink "com/example/elsewhere/elsewhere/Field$Subfield" (17 : Nat) ({ cls := "java/lang/String", name := "length", desc := "()I" } : Jvm.MethodName)).before a0 Z = true := hw _ (List.mem_of_getElem? (i := 62) rfl)
theorem w63 {a0 : Array Value} {Z : State} (hw : Hw a0 Z) : (Jvm.Cond.declares ({ cls := "java/lang/String", name := "length", desc := "()I" } : Jvm.MethodName)).before a0 Z = true := hw _ (List.mem_of_getElem? (i := 63) rfl)
theorem w64 {a0 : Array Value} {Z : State} (hw : Hw a0 Z) : (Jvm.Cond.instanceMethod ({ cls := "java/lang/String", name := "length", desc := "()I" } : Jvm.MethodName)).before a0 Z = true := hw _ (List.mem_of_getElem? (i := 64) rfl)
theorem w65 {a0 : Array Value} {Z : State} (hw : Hw a0 Z) : (Jvm.Cond.selects "java/lang/String" ({ cls := "java/lang/String", name := "length", desc := "()I" } : Jvm.MethodName) ({ cls := "java/lang/String", name := "length", desc := "()I" } : Jvm.MethodName)).before a0 Z = true := hw _ (List.mem_of_getElem? (i := 65) rfl)
theorem w66 {a0 : Array Value} {Z : State} (hw : Hw a0 Z) : (Jvm.Cond.code ({ cls := "java/lang/String", name := "length", desc := "()I" } : Jvm.MethodName) jdk_42_method_54_code (1 : Nat) (Option.some Jvm.ClassFile.FieldType.int)).before a0 Z = true := hw _ (List.mem_of_getElem? (i := 66) rfl)
theorem w67 {a0 : Array Value} {Z : State} (hw : Hw a0 Z) : (Jvm.Cond.methodLink "java/lang/String" (335 : Nat) ({ cls := "java/lang/String", name := "coder", desc := "()B" } : Jvm.MethodName)).before a0 Z = true := hw _ (List.mem_of_getElem? (i := 67) rfl)
theorem w68 {a0 : Array Value} {Z : State} (hw : Hw a0 Z) : (Jvm.Cond.declares ({ cls := "java/lang/String", name := "coder", desc := "()B" } : Jvm.MethodName)).before a0 Z = true := hw _ (List.mem_of_getElem? (i := 68) rfl)
theorem w69 {a0 : Array Value} {Z : State} (hw : Hw a0 Z) : (Jvm.Cond.instanceMethod ({ cls := "java/lang/String", name := "coder", desc := "()B" } : Jvm.MethodName)).before a0 Z = true := hw _ (List.mem_of_getElem? (i := 69) rfl)
theorem w70 {a0 : Array Value} {Z : State} (hw : Hw a0 Z) : (Jvm.Cond.selects "java/lang/String" ({ cls := "java/lang/String", name := "coder", desc := "()B" } : Jvm.MethodName) ({ cls := "java/lang/String", name := "coder", desc := "()B" } : Jvm.MethodName)).before a0 Z = true := hw _ (List.mem_of_getElem? (i := 70) rfl)
theorem w71 {a0 : Array Value} {Z : State} (hw : Hw a0 Z) : (Jvm.Cond.code ({ cls := "java/lang/String", name := "coder", desc := "()B" } : Jvm.MethodName) jdk_42_method_152_code (1 : Nat) (Option.some Jvm.ClassFile.FieldType.byte)).before a0 Z = true := hw _ (List.mem_of_getElem? (i := 71) rfl)
theorem w72 {a0 : Array Value} {Z : State} (hw : Hw a0 Z) : (Jvm.Cond.methodLink "com/example/elsewhere/elsewhere/Field$Subfield" (23 : Nat) ({ cls := "java/lang/String", name := "charAt", desc := "(I)C" } : Jvm.MethodName)).before a0 Z = true := hw _ (List.mem_of_getElem? (i := 72) rfl)
theorem w73 {a0 : Array Value} {Z : State} (hw : Hw a0 Z) : (Jvm.Cond.declares ({ cls := "java/lang/String", name := "charAt", desc := "(I)C" } : Jvm.MethodName)).before a0 Z = true := hw _ (List.mem_of_getElem? (i := 73) rfl)
theorem w74 {a0 : Array Value} {Z : State} (hw : Hw a0 Z) : (Jvm.Cond.instanceMethod ({ cls := "java/lang/String", name := "charAt", desc := "(I)C" } : Jvm.MethodName)).before a0 Z = true := hw _ (List.mem_of_getElem? (i := 74) rfl)
theorem w75 {a0 : Array Value} {Z : State} (hw : Hw a0 Z) : (Jvm.Cond.selects "java/lang/String" ({ cls := "java/lang/String", name := "charAt", desc := "(I)C" } : Jvm.MethodName) ({ cls := "java/lang/String", name := "charAt", desc := "(I)C" } : Jvm.MethodName)).before a0 Z = true := hw _ (List.mem_of_getElem? (i := 75) rfl)
theorem w76 {a0 : Array Value} {Z : State} (hw : Hw a0 Z) : (Jvm.Cond.code ({ cls := "java/lang/String", name := "charAt", desc := "(I)C" } : Jvm.MethodName) jdk_42_method_56_code (2 : Nat) (Option.some Jvm.ClassFile.FieldType.char)).before a0 Z = true := hw _ (List.mem_of_getElem? (i := 76) rfl)
theorem w77 {a0 : Array Value} {Z : State} (hw : Hw a0 Z) : (Jvm.Cond.methodLink "java/lang/String" (492 : Nat) ({ cls := "java/lang/String", name := "isLatin1", desc := "()Z" } : Jvm.MethodName)).before a0 Z = true := hw _ (List.mem_of_getElem? (i := 77) rfl)
theorem w78 {a0 : Array Value} {Z : State} (hw : Hw a0 Z) : (Jvm.Cond.declares ({ cls := "java/lang/String", name := "isLatin1", desc := "()Z" } : Jvm.MethodName)).before a0 Z = true := hw _ (List.mem_of_getElem? (i := 78) rfl)
theorem w79 {a0 : Array Value} {Z : State} (hw : Hw a0 Z) : (Jvm.Cond.instanceMethod ({ cls := "java/lang/String", name := "isLatin1", desc := "()Z" } : Jvm.MethodName)).before a0 Z = true := hw _ (List.mem_of_getElem? (i := 79) rfl)
theorem w80 {a0 : Array Value} {Z : State} (hw : Hw a0 Z) : (Jvm.Cond.selects "java/lang/String" ({ cls := "java/lang/String", name := "isLatin1", desc := "()Z" } : Jvm.MethodName) ({ cls := "java/lang/String", name := "isLatin1", desc := "()Z" } : Jvm.MethodName)).before a0 Z = true := hw _ (List.mem_of_getElem? (i := 80) rfl)
theorem w81 {a0 : Array Value} {Z : State} (hw : Hw a0 Z) : (Jvm.Cond.code ({ cls := "java/lang/String", name := "isLatin1", desc := "()Z" } : Jvm.MethodName) jdk_42_method_154_code (1 : Nat) (Option.some Jvm.ClassFile.FieldType.boolean)).before a0 Z = true := hw _ (List.mem_of_getElem? (i := 81) rfl)
theorem w82 {a0 : Array Value} {Z : State} (hw : Hw a0 Z) : (Jvm.Cond.methodLink "java/lang/String" (495 : Nat) ({ cls := "java/lang/StringLatin1", name := "charAt", desc := "([BI)C" } : Jvm.MethodName)).before a0 Z = true := hw _ (List.mem_of_getElem? (i := 82) rfl)
theorem w83 {a0 : Array Value} {Z : State} (hw : Hw a0 Z) : (Jvm.Cond.static ({ cls := "java/lang/StringLatin1", name := "charAt", desc := "([BI)C" } : Jvm.MethodName)).before a0 Z = true := hw _ (List.mem_of_getElem? (i := 83) rfl)
theorem w84 {a0 : Array Value} {Z : State} (hw : Hw a0 Z) : (Jvm.Cond.initialized "java/lang/StringLatin1").before a0 Z = true := hw _ (List.mem_of_getElem? (i := 84) rfl)
theorem w85 {a0 : Array Value} {Z : State} (hw : Hw a0 Z) : (Jvm.Cond.code ({ cls := "java/lang/StringLatin1", name := "charAt", desc := "([BI)C" } : Jvm.MethodName) jdk_43_method_2_code (2 : Nat) (Option.some Jvm.ClassFile.FieldType.char)).before a0 Z = true := hw _ (List.mem_of_getElem? (i := 85) rfl)
theorem w86 {a0 : Array Value} {Z : State} (hw : Hw a0 Z) : (Jvm.Cond.methodLink "java/lang/StringLatin1" (9 : Nat) ({ cls := "java/lang/String", name := "checkIndex", desc := "(II)V" } : Jvm.MethodName)).before a0 Z = true := hw _ (List.mem_of_getElem? (i := 86) rfl)
theorem w87 {a0 : Array Value} {Z : State} (hw : Hw a0 Z) : (Jvm.Cond.static ({ cls := "java/lang/String", name := "checkIndex", desc := "(II)V" } : Jvm.MethodName)).before a0 Z = true := hw _ (List.mem_of_getElem? (i := 87) rfl)
theorem w88 {a0 : Array Value} {Z : State} (hw : Hw a0 Z) : (Jvm.Cond.code ({ cls := "java/lang/String", name := "checkIndex", desc := "(II)V" } : Jvm.MethodName) jdk_42_method_155_code (2 : Nat) (Option.none : Option Jvm.ClassFile.FieldType)).before a0 Z = true := hw _ (List.mem_of_getElem? (i := 88) rfl)
theorem w89 {a0 : Array Value} {Z : State} (hw : Hw a0 Z) : (Jvm.Cond.fieldLink "java/lang/String" (1053 : Nat) "jdk/internal/util/Preconditions" "SIOOBE_FORMATTER" "Ljava/util/function/BiFunction;").before a0 Z = true := hw _ (List.mem_of_getElem? (i := 89) rfl)
theorem w90 {a0 : Array Value} {Z : State} (hw : Hw a0 Z) : (Jvm.Cond.initialized "jdk/internal/util/Preconditions").before a0 Z = true := hw _ (List.mem_of_getElem? (i := 90) rfl)
theorem w91 {a0 : Array Value} {Z : State} (hw : Hw a0 Z) : (Jvm.Cond.methodLink "java/lang/String" (1059 : Nat) ({ cls := "jdk/internal/util/Preconditions", name := "checkIndex", desc := "(IILjava/util/function/BiFunction;)I" } : Jvm.MethodName)).before a0 Z = true := hw _ (List.mem_of_getElem? (i := 91) rfl)
theorem w92 {a0 : Array Value} {Z : State} (hw : Hw a0 Z) : (Jvm.Cond.static ({ cls := "jdk/internal/util/Preconditions", name := "checkIndex", desc := "(IILjava/util/function/BiFunction;)I" } : Jvm.MethodName)).before a0 Z = true := hw _ (List.mem_of_getElem? (i := 92) rfl)
theorem w93 {a0 : Array Value} {Z : State} (hw : Hw a0 Z) : (Jvm.Cond.code ({ cls := "jdk/internal/util/Preconditions", name := "checkIndex", desc := "(IILjava/util/function/BiFunction;)I" } : Jvm.MethodName) jdk_41_method_11_code (3 : Nat) (Option.some Jvm.ClassFile.FieldType.int)).before a0 Z = true := hw _ (List.mem_of_getElem? (i := 93) rfl)
theorem w94 {a0 : Array Value} {Z : State} (hw : Hw a0 Z) : (Jvm.Cond.methodLink "com/example/elsewhere/elsewhere/Field$Subfield" (27 : Nat) ({ cls := "com/example/elsewhere/elsewhere/Field$Subfield", name := "endBeforeSpaces", desc := "(II)I" } : Jvm.MethodName)).before a0 Z = true := hw _ (List.mem_of_getElem? (i := 94) rfl)
theorem w95 {a0 : Array Value} {Z : State} (hw : Hw a0 Z) : (Jvm.Cond.instanceMethod ({ cls := "com/example/elsewhere/elsewhere/Field$Subfield", name := "endBeforeSpaces", desc := "(II)I" } : Jvm.MethodName)).before a0 Z = true := hw _ (List.mem_of_getElem? (i := 95) rfl)
theorem w96 {a0 : Array Value} {Z : State} (hw : Hw a0 Z) : (Jvm.Cond.privateMethod ({ cls := "com/example/elsewhere/elsewhere/Field$Subfield", name := "endBeforeSpaces", desc := "(II)I" } : Jvm.MethodName)).before a0 Z = true := hw _ (List.mem_of_getElem? (i := 96) rfl)
theorem w97 {a0 : Array Value} {Z : State} (hw : Hw a0 Z) : (Jvm.Cond.code ({ cls := "com/example/elsewhere/elsewhere/Field$Subfield", name := "endBeforeSpaces", desc := "(II)I" } : Jvm.MethodName) prog_11_method_5_code (4 : Nat) (Option.some Jvm.ClassFile.FieldType.int)).before a0 Z = true := hw _ (List.mem_of_getElem? (i := 97) rfl)
theorem w98 {a0 : Array Value} {Z : State} (hw : Hw a0 Z) : (Jvm.Cond.methodLink "com/example/elsewhere/elsewhere/Field$Subfield" (31 : Nat) ({ cls := "com/example/elsewhere/elsewhere/Field$Subfield", name := "endBeforeSeparator", desc := "(II)I" } : Jvm.MethodName)).before a0 Z = true := hw _ (List.mem_of_getElem? (i := 98) rfl)
theorem w99 {a0 : Array Value} {Z : State} (hw : Hw a0 Z) : (Jvm.Cond.instanceMethod ({ cls := "com/example/elsewhere/elsewhere/Field$Subfield", name := "endBeforeSeparator", desc := "(II)I" } : Jvm.MethodName)).before a0 Z = true := hw _ (List.mem_of_getElem? (i := 99) rfl)
theorem w100 {a0 : Array Value} {Z : State} (hw : Hw a0 Z) : (Jvm.Cond.privateMethod ({ cls := "com/example/elsewhere/elsewhere/Field$Subfield", name := "endBeforeSeparator", desc := "(II)I" } : Jvm.MethodName)).before a0 Z = true := hw _ (List.mem_of_getElem? (i := 100) rfl)
theorem w101 {a0 : Array Value} {Z : State} (hw : Hw a0 Z) : (Jvm.Cond.code ({ cls := "com/example/elsewhere/elsewhere/Field$Subfield", name := "endBeforeSeparator", desc := "(II)I" } : Jvm.MethodName) prog_11_method_4_code (3 : Nat) (Option.some Jvm.ClassFile.FieldType.int)).before a0 Z = true := hw _ (List.mem_of_getElem? (i := 101) rfl)
theorem w102 {a0 : Array Value} {Z : State} (hw : Hw a0 Z) : (Jvm.Cond.stringLink "com/example/elsewhere/elsewhere/Field$Subfield" (38 : Nat) ";,:").before a0 Z = true := hw _ (List.mem_of_getElem? (i := 102) rfl)
theorem w103 {a0 : Array Value} {Z : State} (hw : Hw a0 Z) : (Jvm.Cond.soleField "java/lang/String" "value").before a0 Z = true := hw _ (List.mem_of_getElem? (i := 103) rfl)
theorem w104 {a0 : Array Value} {Z : State} (hw : Hw a0 Z) : (Jvm.Cond.soleField "java/lang/String" "coder").before a0 Z = true := hw _ (List.mem_of_getElem? (i := 104) rfl)
theorem w105 {a0 : Array Value} {Z : State} (hw : Hw a0 Z) : (Jvm.Cond.methodLink "com/example/elsewhere/elsewhere/Field$Subfield" (40 : Nat) ({ cls := "java/lang/String", name := "indexOf", desc := "(I)I" } : Jvm.MethodName)).before a0 Z = true := hw _ (List.mem_of_getElem? (i := 105) rfl)
theorem w106 {a0 : Array Value} {Z : State} (hw : Hw a0 Z) : (Jvm.Cond.declares ({ cls := "java/lang/String", name := "indexOf", desc := "(I)I" } : Jvm.MethodName)).before a0 Z = true := hw _ (List.mem_of_getElem? (i := 106) rfl)
theorem w107 {a0 : Array Value} {Z : State} (hw : Hw a0 Z) : (Jvm.Cond.instanceMethod ({ cls := "java/lang/String", name := "indexOf", desc := "(I)I" } : Jvm.MethodName)).before a0 Z = true := hw _ (List.mem_of_getElem? (i := 107) rfl)
theorem w108 {a0 : Array Value} {Z : State} (hw : Hw a0 Z) : (Jvm.Cond.selects "java/lang/String" ({ cls := "java/lang/String", name := "indexOf", desc := "(I)I" } : Jvm.MethodName) ({ cls := "java/lang/String", name := "indexOf", desc := "(I)I" } : Jvm.MethodName)).before a0 Z = true := hw _ (List.mem_of_getElem? (i := 108) rfl)
theorem w109 {a0 : Array Value} {Z : State} (hw : Hw a0 Z) : (Jvm.Cond.code ({ cls := "java/lang/String", name := "indexOf", desc := "(I)I" } : Jvm.MethodName) jdk_42_method_79_code (2 : Nat) (Option.some Jvm.ClassFile.FieldType.int)).before a0 Z = true := hw _ (List.mem_of_getElem? (i := 109) rfl)
theorem w110 {a0 : Array Value} {Z : State} (hw : Hw a0 Z) : (Jvm.Cond.methodLink "java/lang/String" (633 : Nat) ({ cls := "java/lang/String", name := "indexOf", desc := "(II)I" } : Jvm.MethodName)).before a0 Z = true := hw _ (List.mem_of_getElem? (i := 110) rfl)
theorem w111 {a0 : Array Value} {Z : State} (hw : Hw a0 Z) : (Jvm.Cond.declares ({ cls := "java/lang/String", name := "indexOf", desc := "(II)I" } : Jvm.MethodName)).before a0 Z = true := hw _ (List.mem_of_getElem? (i := 111) rfl)
theorem w112 {a0 : Array Value} {Z : State} (hw : Hw a0 Z) : (Jvm.Cond.instanceMethod ({ cls := "java/lang/String", name := "indexOf", desc := "(II)I" } : Jvm.MethodName)).before a0 Z = true := hw _ (List.mem_of_getElem? (i := 112) rfl)
theorem w113 {a0 : Array Value} {Z : State} (hw : Hw a0 Z) : (Jvm.Cond.selects "java/lang/String" ({ cls := "java/lang/String", name := "indexOf", desc := "(II)I" } : Jvm.MethodName) ({ cls := "java/lang/String", name := "indexOf", desc := "(II)I" } : Jvm.MethodName)).before a0 Z = true := hw _ (List.mem_of_getElem? (i := 113) rfl)
theorem w114 {a0 : Array Value} {Z : State} (hw : Hw a0 Z) : (Jvm.Cond.code ({ cls := "java/lang/String", name := "indexOf", desc := "(II)I" } : Jvm.MethodName) jdk_42_method_80_code (3 : Nat) (Option.some Jvm.ClassFile.FieldType.int)).before a0 Z = true := hw _ (List.mem_of_getElem? (i := 114) rfl)
theorem w115 {a0 : Array Value} {Z : State} (hw : Hw a0 Z) : (Jvm.Cond.methodLink "java/lang/String" (505 : Nat) ({ cls := "java/lang/String", name := "length", desc := "()I" } : Jvm.MethodName)).before a0 Z = true := hw _ (List.mem_of_getElem? (i := 115) rfl)
theorem w116 {a0 : Array Value} {Z : State} (hw : Hw a0 Z) : (Jvm.Cond.methodLink "java/lang/String" (637 : Nat) ({ cls := "java/lang/StringLatin1", name := "indexOf", desc := "([BIII)I" } : Jvm.MethodName)).before a0 Z = true := hw _ (List.mem_of_getElem? (i := 116) rfl)
theorem w117 {a0 : Array Value} {Z : State} (hw : Hw a0 Z) : (Jvm.Cond.static ({ cls := "java/lang/StringLatin1", name := "indexOf", desc := "([BIII)I" } : Jvm.MethodName)).before a0 Z = true := hw _ (List.mem_of_getElem? (i := 117) rfl)
theorem w118 {a0 : Array Value} {Z : State} (hw : Hw a0 Z) : (Jvm.Cond.code ({ cls := "java/lang/StringLatin1", name := "indexOf", desc := "([BIII)I" } : Jvm.MethodName) jdk_43_method_22_code (4 : Nat) (Option.some Jvm.ClassFile.FieldType.int)).before a0 Z = true := hw _ (List.mem_of_getElem? (i := 118) rfl)
theorem w119 {a0 : Array Value} {Z : State} (hw : Hw a0 Z) : (Jvm.Cond.methodLink "java/lang/StringLatin1" (88 : Nat) ({ cls := "java/lang/StringLatin1", name := "canEncode", desc := "(I)Z" } : Jvm.MethodName)).before a0 Z = true := hw _ (List.mem_of_getElem? (i := 119) rfl)
theorem w120 {a0 : Array Value} {Z : State} (hw : Hw a0 Z) : (Jvm.Cond.static ({ cls := "java/lang/StringLatin1", name := "canEncode", desc := "(I)Z" } : Jvm.MethodName)).before a0 Z = true := hw _ (List.mem_of_getElem? (i := 120) rfl)
theorem w121 {a0 : Array Value} {Z : State} (hw : Hw a0 Z) : (Jvm.Cond.code ({ cls := "java/lang/StringLatin1", name := "canEncode", desc := "(I)Z" } : Jvm.MethodName) jdk_43_method_4_code (1 : Nat) (Option.some Jvm.ClassFile.FieldType.boolean)).before a0 Z = true := hw _ (List.mem_of_getElem? (i := 121) rfl)
theorem w122 {a0 : Array Value} {Z : State} (hw : Hw a0 Z) : (Jvm.Cond.methodLink "java/lang/StringLatin1" (92 : Nat) ({ cls := "java/lang/Math", name := "max", desc := "(II)I" } : Jvm.MethodName)).before a0 Z = true := hw _ (List.mem_of_getElem? (i := 122) rfl)
theorem w123 {a0 : Array Value} {Z : State} (hw : Hw a0 Z) : (Jvm.Cond.static ({ cls := "java/lang/Math", name := "max", desc := "(II)I" } : Jvm.MethodName)).before a0 Z = true := hw _ (List.mem_of_getElem? (i := 123) rfl)
theorem w124 {a0 : Array Value} {Z : State} (hw : Hw a0 Z) : (Jvm.Cond.code ({ cls := "java/lang/Math", name := "max", desc := "(II)I" } : Jvm.MethodName) jdk_29_method_65_code (2 : Nat) (Option.some Jvm.ClassFile.FieldType.int)).before a0 Z = true := hw _ (List.mem_of_getElem? (i := 124) rfl)
theorem w125 {a0 : Array Value} {Z : State} (hw : Hw a0 Z) : (Jvm.Cond.methodLink "java/lang/StringLatin1" (38 : Nat) ({ cls := "java/lang/Math", name := "min", desc := "(II)I" } : Jvm.MethodName)).before a0 Z = true := hw _ (List.mem_of_getElem? (i := 125) rfl)
theorem w126 {a0 : Array Value} {Z : State} (hw : Hw a0 Z) : (Jvm.Cond.methodLink "java/lang/StringLatin1" (95 : Nat) ({ cls := "java/lang/StringLatin1", name := "indexOfChar", desc := "([BIII)I" } : Jvm.MethodName)).before a0 Z = true := hw _ (List.mem_of_getElem? (i := 126) rfl)
theorem w127 {a0 : Array Value} {Z : State} (hw : Hw a0 Z) : (Jvm.Cond.static ({ cls := "java/lang/StringLatin1", name := "indexOfChar", desc := "([BIII)I" } : Jvm.MethodName)).before a0 Z = true := hw _ (List.mem_of_getElem? (i := 127) rfl)
theorem w128 {a0 : Array Value} {Z : State} (hw : Hw a0 Z) : (Jvm.Cond.code ({ cls := "java/lang/StringLatin1", name := "indexOfChar", desc := "([BIII)I" } : Jvm.MethodName) jdk_43_method_23_code (6 : Nat) (Option.some Jvm.ClassFile.FieldType.int)).before a0 Z = true := hw _ (List.mem_of_getElem? (i := 128) rfl)
theorem w129 {a0 : Array Value} {Z : State} (hw : Hw a0 Z) : (Jvm.Cond.methodLink "com/example/elsewhere/elsewhere/Field$Subfield" (34 : Nat) ({ cls := "java/lang/String", name := "substring", desc := "(II)Ljava/lang/String;" } : Jvm.MethodName)).before a0 Z = true := hw _ (List.mem_of_getElem? (i := 129) rfl)
theorem w130 {a0 : Array Value} {Z : State} (hw : Hw a0 Z) : (Jvm.Cond.declares ({ cls := "java/lang/String", name := "substring", desc := "(II)Ljava/lang/String;" } : Jvm.MethodName)).before a0 Z = true := hw _ (List.mem_of_getElem? (i := 130) rfl)
theorem w131 {a0 : Array Value} {Z : State} (hw : Hw a0 Z) : (Jvm.Cond.instanceMethod ({ cls := "java/lang/String", name := "substring", desc := "(II)Ljava/lang/String;" } : Jvm.MethodName)).before a0 Z = true := hw _ (List.mem_of_getElem? (i := 131) rfl)
theorem w132 {a0 : Array Value} {Z : State} (hw : Hw a0 Z) : (Jvm.Cond.selects "java/lang/String" ({ cls := "java/lang/String", name := "substring", desc := "(II)Ljava/lang/String;" } : Jvm.MethodName) ({ cls := "java/lang/String", name := "substring", desc := "(II)Ljava/lang/String;" } : Jvm.MethodName)).before a0 Z = true := hw _ (List.mem_of_getElem? (i := 132) rfl)
theorem w133 {a0 : Array Value} {Z : State} (hw : Hw a0 Z) : (Jvm.Cond.code ({ cls := "java/lang/String", name := "substring", desc := "(II)Ljava/lang/String;" } : Jvm.MethodName) jdk_42_method_92_code (5 : Nat) (Option.some (Jvm.ClassFile.FieldType.object "java/lang/String"))).before a0 Z = true := hw _ (List.mem_of_getElem? (i := 133) rfl)
theorem w134 {a0 : Array Value} {Z : State} (hw : Hw a0 Z) : (Jvm.Cond.methodLink "java/lang/String" (521 : Nat) ({ cls := "java/lang/String", name := "checkBoundsBeginEnd", desc := "(III)V" } : Jvm.MethodName)).before a0 Z = true := hw _ (List.mem_of_getElem? (i := 134) rfl)
theorem w135 {a0 : Array Value} {Z : State} (hw : Hw a0 Z) : (Jvm.Cond.static ({ cls := "java/lang/String", name := "checkBoundsBeginEnd", desc := "(III)V" } : Jvm.MethodName)).before a0 Z = true := hw _ (List.mem_of_getElem? (i := 135) rfl)
theorem w136 {a0 : Array Value} {Z : State} (hw : Hw a0 Z) : (Jvm.Cond.code ({ cls := "java/lang/String", name := "checkBoundsBeginEnd", desc := "(III)V" } : Jvm.MethodName) jdk_42_method_158_code (3 : Nat) (Option.none : Option Jvm.ClassFile.FieldType)).before a0 Z = true := hw _ (List.mem_of_getElem? (i := 136) rfl)
theorem w137 {a0 : Array Value} {Z : State} (hw : Hw a0 Z) : (Jvm.Cond.methodLink "java/lang/String" (1062 : Nat) ({ cls := "jdk/internal/util/Preconditions", name := "checkFromToIndex", desc := "(IIILjava/util/function/BiFunction;)I" } : Jvm.MethodName)).before a0 Z = true := hw _ (List.mem_of_getElem? (i := 137) rfl)
theorem w138 {a0 : Array Value} {Z : State} (hw : Hw a0 Z) : (Jvm.Cond.static ({ cls := "jdk/internal/util/Preconditions", name := "checkFromToIndex", desc := "(IIILjava/util/function/BiFunction;)I" } : Jvm.MethodName)).before a0 Z = true := hw _ (List.mem_of_getElem? (i := 138) rfl)
theorem w139 {a0 : Array Value} {Z : State} (hw : Hw a0 Z) : (Jvm.Cond.code ({ cls := "jdk/internal/util/Preconditions", name := "checkFromToIndex", desc := "(IIILjava/util/function/BiFunction;)I" } : Jvm.MethodName) jdk_41_method_12_code (4 : Nat) (Option.some Jvm.ClassFile.FieldType.int)).before a0 Z = true := hw _ (List.mem_of_getElem? (i := 139) rfl)
theorem w140 {a0 : Array Value} {Z : State} (hw : Hw a0 Z) : (Jvm.Cond.methodLink "com/example/elsewhere/elsewhere/SubfieldCleanValuePinLaw" (33 : Nat) ({ cls := "java/lang/String", name := "length", desc := "()I" } : Jvm.MethodName)).before a0 Z = true := hw _ (List.mem_of_getElem? (i := 140) rfl)
theorem w141 {a0 : Array Value} {Z : State} (hw : Hw a0 Z) : (Jvm.Cond.methodLink "com/example/elsewhere/elsewhere/SubfieldCleanValuePinLaw" (37 : Nat) ({ cls := "com/example/elsewhere/elsewhere/SubfieldCleanValuePinLaw", name := "same", desc := "(Ljava/lang/String;[CIII)Z" } : Jvm.MethodName)).before a0 Z = true := hw _ (List.mem_of_getElem? (i := 141) rfl)
theorem w142 {a0 : Array Value} {Z : State} (hw : Hw a0 Z) : (Jvm.Cond.static ({ cls := "com/example/elsewhere/elsewhere/SubfieldCleanValuePinLaw", name := "same", desc := "(Ljava/lang/String;[CIII)Z" } : Jvm.MethodName)).before a0 Z = true := hw _ (List.mem_of_getElem? (i := 142) rfl)
theorem w143 {a0 : Array Value} {Z : State} (hw : Hw a0 Z) : (Jvm.Cond.code ({ cls := "com/example/elsewhere/elsewhere/SubfieldCleanValuePinLaw", name := "same", desc := "(Ljava/lang/String;[CIII)Z" } : Jvm.MethodName) method_5_code (5 : Nat) (Option.some Jvm.ClassFile.FieldType.boolean)).before a0 Z = true := hw _ (List.mem_of_getElem? (i := 143) rfl)
theorem w144 {a0 : Array Value} {Z : State} (hw : Hw a0 Z) : (Jvm.Cond.methodLink "com/example/elsewhere/elsewhere/SubfieldCleanValuePinLaw" (45 : Nat) ({ cls := "java/lang/String", name := "charAt", desc := "(I)C" } : Jvm.MethodName)).before a0 Z = true := hw _ (List.mem_of_getElem? (i := 144) rfl)
theorem w145 {a0 : Array Value} {Z : State} (hw : Hw a0 Z) : (Jvm.Cond.methodLink "java/lang/String" (685 : Nat) ({ cls := "java/lang/StringLatin1", name := "newString", desc := "([BII)Ljava/lang/String;" } : Jvm.MethodName)).before a0 Z = true := hw _ (List.mem_of_getElem? (i := 145) rfl)
theorem w146 {a0 : Array Value} {Z : State} (hw : Hw a0 Z) : (Jvm.Cond.static ({ cls := "java/lang/StringLatin1", name := "newString", desc := "([BII)Ljava/lang/String;" } : Jvm.MethodName)).before a0 Z = true := hw _ (List.mem_of_getElem? (i := 146) rfl)
theorem w147 {a0 : Array Value} {Z : State} (hw : Hw a0 Z) : (Jvm.Cond.code ({ cls := "java/lang/StringLatin1", name := "newString", desc := "([BII)Ljava/lang/String;" } : Jvm.MethodName) jdk_43_method_47_code (3 : Nat) (Option.some (Jvm.ClassFile.FieldType.object "java/lang/String"))).before a0 Z = true := hw _ (List.mem_of_getElem? (i := 147) rfl)
theorem w148 {a0 : Array Value} {Z : State} (hw : Hw a0 Z) : (Jvm.Cond.classLink "java/lang/StringLatin1" (1 : Nat) "java/lang/String").before a0 Z = true := hw _ (List.mem_of_getElem? (i := 148) rfl)
theorem w149 {a0 : Array Value} {Z : State} (hw : Hw a0 Z) : (Jvm.Cond.methodLink "java/lang/StringLatin1" (232 : Nat) ({ cls := "java/util/Arrays", name := "copyOfRange", desc := "([BII)[B" } : Jvm.MethodName)).before a0 Z = true := hw _ (List.mem_of_getElem? (i := 149) rfl)
theorem w150 {a0 : Array Value} {Z : State} (hw : Hw a0 Z) : (Jvm.Cond.static ({ cls := "java/util/Arrays", name := "copyOfRange", desc := "([BII)[B" } : Jvm.MethodName)).before a0 Z = true := hw _ (List.mem_of_getElem? (i := 150) rfl)
theorem w151 {a0 : Array Value} {Z : State} (hw : Hw a0 Z) : (Jvm.Cond.initialized "java/util/Arrays").before a0 Z = true := hw _ (List.mem_of_getElem? (i := 151) rfl)
theorem w152 {a0 : Array Value} {Z : State} (hw : Hw a0 Z) : (Jvm.Cond.code ({ cls := "java/util/Arrays", name := "copyOfRange", desc := "([BII)[B" } : Jvm.MethodName) jdk_65_method_132_code (3 : Nat) (Option.some (Jvm.ClassFile.FieldType.array Jvm.ClassFile.FieldType.byte))).before a0 Z = true := hw _ (List.mem_of_getElem? (i := 152) rfl)
theorem w153 {a0 : Array Value} {Z : State} (hw : Hw a0 Z) : (Jvm.Cond.methodLink "java/util/Arrays" (339 : Nat) ({ cls := "java/util/Arrays", name := "copyOfRangeByte", desc := "([BII)[B" } : Jvm.MethodName)).before a0 Z = true := hw _ (List.mem_of_getElem? (i := 153) rfl)
theorem w154 {a0 : Array Value} {Z : State} (hw : Hw a0 Z) : (Jvm.Cond.static ({ cls := "java/util/Arrays", name := "copyOfRangeByte", desc := "([BII)[B" } : Jvm.MethodName)).before a0 Z = true := hw _ (List.mem_of_getElem? (i := 154) rfl)
theorem w155 {a0 : Array Value} {Z : State} (hw : Hw a0 Z) : (Jvm.Cond.code ({ cls := "java/util/Arrays", name := "copyOfRangeByte", desc := "([BII)[B" } : Jvm.MethodName) jdk_65_method_133_code (5 : Nat) (Option.some (Jvm.ClassFile.FieldType.array Jvm.ClassFile.FieldType.byte))).before a0 Z = true := hw _ (List.mem_of_getElem? (i := 155) rfl)
theorem w156 {a0 : Array Value} {Z : State} (hw : Hw a0 Z) : (Jvm.Cond.methodLink "java/util/Arrays" (343 : Nat) ({ cls := "java/util/Arrays", name := "checkLength", desc := "(II)V" } : Jvm.MethodName)).before a0 Z = true := hw _ (List.mem_of_getElem? (i := 156) rfl)
theorem w157 {a0 : Array Value} {Z : State} (hw : Hw a0 Z) : (Jvm.Cond.static ({ cls := "java/util/Arrays", name := "checkLength", desc := "(II)V" } : Jvm.MethodName)).before a0 Z = true := hw _ (List.mem_of_getElem? (i := 157) rfl)
theorem w158 {a0 : Array Value} {Z : State} (hw : Hw a0 Z) : (Jvm.Cond.code ({ cls := "java/util/Arrays", name := "checkLength", desc := "(II)V" } : Jvm.MethodName) jdk_65_method_131_code (2 : Nat) (Option.none : Option Jvm.ClassFile.FieldType)).before a0 Z = true := hw _ (List.mem_of_getElem? (i := 158) rfl)
theorem w159 {a0 : Array Value} {Z : State} (hw : Hw a0 Z) : (Jvm.Cond.methodLink "java/util/Arrays" (304 : Nat) ({ cls := "java/lang/Math", name := "min", desc := "(II)I" } : Jvm.MethodName)).before a0 Z = true := hw _ (List.mem_of_getElem? (i := 159) rfl)
theorem w160 {a0 : Array Value} {Z : State} (hw : Hw a0 Z) : (Jvm.Cond.methodLink "java/util/Arrays" (150 : Nat) ({ cls := "java/lang/System", name := "arraycopy", desc := "(Ljava/lang/Object;ILjava/lang/Object;II)V" } : Jvm.MethodName)).before a0 Z = true := hw _ (List.mem_of_getElem? (i := 160) rfl)
theorem w161 {a0 : Array Value} {Z : State} (hw : Hw a0 Z) : (Jvm.Cond.static ({ cls := "java/lang/System", name := "arraycopy", desc := "(Ljava/lang/Object;ILjava/lang/Object;II)V" } : Jvm.MethodName)).before a0 Z = true := hw _ (List.mem_of_getElem? (i := 161) rfl)
theorem w162 {a0 : Array Value} {Z : State} (hw : Hw a0 Z) : (Jvm.Cond.initialized "java/lang/System").before a0 Z = true := hw _ (List.mem_of_getElem? (i := 162) rfl)
theorem w163 {a0 : Array Value} {Z : State} (hw : Hw a0 Z) : (Jvm.Cond.native ({ cls := "java/lang/System", name := "arraycopy", desc := "(Ljava/lang/Object;ILjava/lang/Object;II)V" } : Jvm.MethodName)).before a0 Z = true := hw _ (List.mem_of_getElem? (i := 163) rfl)
theorem w164 {a0 : Array Value} {Z : State} (hw : Hw a0 Z) : (Jvm.Cond.methodLink "java/lang/StringLatin1" (112 : Nat) ({ cls := "java/lang/String", name := "<init>", desc := "([BB)V" } : Jvm.MethodName)).before a0 Z = true := hw _ (List.mem_of_getElem? (i := 164) rfl)
theorem w165 {a0 : Array Value} {Z : State} (hw : Hw a0 Z) : (Jvm.Cond.instanceMethod ({ cls := "java/lang/String", name := "<init>", desc := "([BB)V" } : Jvm.MethodName)).before a0 Z = true := hw _ (List.mem_of_getElem? (i := 165) rfl)
theorem w166 {a0 : Array Value} {Z : State} (hw : Hw a0 Z) : (Jvm.Cond.code ({ cls := "java/lang/String", name := "<init>", desc := "([BB)V" } : Jvm.MethodName) jdk_42_method_151_code (3 : Nat) (Option.none : Option Jvm.ClassFile.FieldType)).before a0 Z = true := hw _ (List.mem_of_getElem? (i := 166) rfl)
theorem w167 {a0 : Array Value} {Z : State} (hw : Hw a0 Z) : (Jvm.Cond.stringLink "java/lang/StringLatin1" (151 : Nat) "").before a0 Z = true := hw _ (List.mem_of_getElem? (i := 167) rfl)
theorem e0_0 : decode jdk_52_method_21_code 0 = .ok (.iconst 0, 1) := by decide +kernel
theorem e0_1 : decode jdk_52_method_21_code 1 = .ok (.istore 5, 2) := by decide +kernel
theorem e0_3 : decode jdk_52_method_21_code 3 = .ok (.iload 5, 2) := by decide +kernel
theorem e0_5 : decode jdk_52_method_21_code 5 = .ok (.iload 4, 2) := by decide +kernel
theorem e0_7 : decode jdk_52_method_21_code 7 = .ok (.if_icmp .ge 37, 3) := by decide +kernel
theorem e0_10 : decode jdk_52_method_21_code 10 = .ok (.aload_n 0, 1) := by decide +kernel
theorem e0_11 : decode jdk_52_method_21_code 11 = .ok (.iload_n 1, 1) := by decide +kernel
theorem e0_12 : decode jdk_52_method_21_code 12 = .ok (.caload, 1) := by decide +kernel
theorem e0_13 : decode jdk_52_method_21_code 13 = .ok (.istore 6, 2) := by decide +kernel
theorem e0_15 : decode jdk_52_method_21_code 15 = .ok (.iload 6, 2) := by decide +kernel
theorem e0_17 : decode jdk_52_method_21_code 17 = .ok (.sipush 255, 3) := by decide +kernel
theorem e0_20 : decode jdk_52_method_21_code 20 = .ok (.if_icmp .le 6, 3) := by decide +kernel
theorem e0_23 : decode jdk_52_method_21_code 23 = .ok (.iload 5, 2) := by decide +kernel
theorem e0_25 : decode jdk_52_method_21_code 25 = .ok (.ireturn, 1) := by decide +kernel
theorem e0_26 : decode jdk_52_method_21_code 26 = .ok (.aload_n 2, 1) := by decide +kernel
theorem e0_27 : decode jdk_52_method_21_code 27 = .ok (.iload_n 3, 1) := by decide +kernel
theorem e0_28 : decode jdk_52_method_21_code 28 = .ok (.iload 6, 2) := by decide +kernel
theorem e0_30 : decode jdk_52_method_21_code 30 = .ok (.i2b, 1) := by decide +kernel
theorem e0_31 : decode jdk_52_method_21_code 31 = .ok (.bastore, 1) := by decide +kernel
theorem e0_32 : decode jdk_52_method_21_code 32 = .ok (.iinc 1 1, 3) := by decide +kernel
theorem e0_35 : decode jdk_52_method_21_code 35 = .ok (.iinc 3 1, 3) := by decide +kernel
theorem e0_38 : decode jdk_52_method_21_code 38 = .ok (.iinc 5 1, 3) := by decide +kernel
theorem e0_41 : decode jdk_52_method_21_code 41 = .ok (.goto (-38), 3) := by decide +kernel
theorem e0_44 : decode jdk_52_method_21_code 44 = .ok (.iload 4, 2) := by decide +kernel
theorem e0_46 : decode jdk_52_method_21_code 46 = .ok (.ireturn, 1) := by decide +kernel
theorem e1_0 : decode jdk_52_method_16_code 0 = .ok (.iload_n 2, 1) := by decide +kernel
theorem e1_1 : decode jdk_52_method_16_code 1 = .ok (.newarray .byte, 2) := by decide +kernel
theorem e1_3 : decode jdk_52_method_16_code 3 = .ok (.astore_n 3, 1) := by decide +kernel
theorem e1_4 : decode jdk_52_method_16_code 4 = .ok (.aload_n 0, 1) := by decide +kernel
theorem e1_5 : decode jdk_52_method_16_code 5 = .ok (.iload_n 1, 1) := by decide +kernel
theorem e1_6 : decode jdk_52_method_16_code 6 = .ok (.aload_n 3, 1) := by decide +kernel
theorem e1_7 : decode jdk_52_method_16_code 7 = .ok (.iconst 0, 1) := by decide +kernel
theorem e1_8 : decode jdk_52_method_16_code 8 = .ok (.iload_n 2, 1) := by decide +kernel
theorem e1_9 : decode jdk_52_method_16_code 9 = .ok (.invokestatic 115, 3) := by decide +kernel
theorem e1_12 : decode jdk_52_method_16_code 12 = .ok (.istore 4, 2) := by decide +kernel
theorem e1_14 : decode jdk_52_method_16_code 14 = .ok (.iload 4, 2) := by decide +kernel
theorem e1_16 : decode jdk_52_method_16_code 16 = .ok (.iload_n 2, 1) := by decide +kernel
theorem e1_17 : decode jdk_52_method_16_code 17 = .ok (.if_icmp .eq 40, 3) := by decide +kernel
theorem e1_57 : decode jdk_52_method_16_code 57 = .ok (.aload_n 3, 1) := by decide +kernel
theorem e1_58 : decode jdk_52_method_16_code 58 = .ok (.areturn, 1) := by decide +kernel
theorem e2_0 : decode jdk_52_method_15_code 0 = .ok (.iload_n 1, 1) := by decide +kernel
theorem e2_1 : decode jdk_52_method_15_code 1 = .ok (.aload_n 0, 1) := by decide +kernel
theorem e2_2 : decode jdk_52_method_15_code 2 = .ok (.arraylength, 1) := by decide +kernel
theorem e2_3 : decode jdk_52_method_15_code 3 = .ok (.isub, 1) := by decide +kernel
theorem e2_4 : decode jdk_52_method_15_code 4 = .ok (.bipush 31, 2) := by decide +kernel
theorem e2_6 : decode jdk_52_method_15_code 6 = .ok (.iushr, 1) := by decide +kernel
theorem e2_7 : decode jdk_52_method_15_code 7 = .ok (.i2b, 1) := by decide +kernel
theorem e2_8 : decode jdk_52_method_15_code 8 = .ok (.ireturn, 1) := by decide +kernel
theorem e3_0 : decode jdk_42_method_149_code 0 = .ok (.aload_n 0, 1) := by decide +kernel
theorem e3_1 : decode jdk_42_method_149_code 1 = .ok (.invokespecial 1, 3) := by decide +kernel
theorem e3_4 : decode jdk_42_method_149_code 4 = .ok (.iload_n 3, 1) := by decide +kernel
theorem e3_5 : decode jdk_42_method_149_code 5 = .ok (.ifCond .ne 22, 3) := by decide +kernel
theorem e3_27 : decode jdk_42_method_149_code 27 = .ok (.getstatic 38, 3) := by decide +kernel
theorem e3_30 : decode jdk_42_method_149_code 30 = .ok (.ifCond .eq 28, 3) := by decide +kernel
theorem e3_33 : decode jdk_42_method_149_code 33 = .ok (.aload_n 1, 1) := by decide +kernel
theorem e3_34 : decode jdk_42_method_149_code 34 = .ok (.iload_n 2, 1) := by decide +kernel
theorem e3_35 : decode jdk_42_method_149_code 35 = .ok (.iload_n 3, 1) := by decide +kernel
theorem e3_36 : decode jdk_42_method_149_code 36 = .ok (.invokestatic 177, 3) := by decide +kernel
theorem e3_39 : decode jdk_42_method_149_code 39 = .ok (.astore 5, 2) := by decide +kernel
theorem e3_41 : decode jdk_42_method_149_code 41 = .ok (.aload_n 0, 1) := by decide +kernel
theorem e3_42 : decode jdk_42_method_149_code 42 = .ok (.aload 5, 2) := by decide +kernel
theorem e3_44 : decode jdk_42_method_149_code 44 = .ok (.iload_n 3, 1) := by decide +kernel
theorem e3_45 : decode jdk_42_method_149_code 45 = .ok (.invokestatic 47, 3) := by decide +kernel
theorem e3_48 : decode jdk_42_method_149_code 48 = .ok (.putfield 15, 3) := by decide +kernel
theorem e3_51 : decode jdk_42_method_149_code 51 = .ok (.aload_n 0, 1) := by decide +kernel
theorem e3_52 : decode jdk_42_method_149_code 52 = .ok (.aload 5, 2) := by decide +kernel
theorem e3_54 : decode jdk_42_method_149_code 54 = .ok (.putfield 9, 3) := by decide +kernel
theorem e3_57 : decode jdk_42_method_149_code 57 = .ok (.return_, 1) := by decide +kernel
theorem e4_0 : decode jdk_42_method_3_code 0 = .ok (.aload_n 0, 1) := by decide +kernel
theorem e4_1 : decode jdk_42_method_3_code 1 = .ok (.aload_n 1, 1) := by decide +kernel
theorem e4_2 : decode jdk_42_method_3_code 2 = .ok (.iconst 0, 1) := by decide +kernel
theorem e4_3 : decode jdk_42_method_3_code 3 = .ok (.aload_n 1, 1) := by decide +kernel
theorem e4_4 : decode jdk_42_method_3_code 4 = .ok (.arraylength, 1) := by decide +kernel
theorem e4_5 : decode jdk_42_method_3_code 5 = .ok (.aconst_null, 1) := by decide +kernel
theorem e4_6 : decode jdk_42_method_3_code 6 = .ok (.invokespecial 27, 3) := by decide +kernel
theorem e4_9 : decode jdk_42_method_3_code 9 = .ok (.return_, 1) := by decide +kernel
theorem e5_0 : decode jdk_42_method_54_code 0 = .ok (.aload_n 0, 1) := by decide +kernel
theorem e5_1 : decode jdk_42_method_54_code 1 = .ok (.getfield 9, 3) := by decide +kernel
theorem e5_4 : decode jdk_42_method_54_code 4 = .ok (.arraylength, 1) := by decide +kernel
theorem e5_5 : decode jdk_42_method_54_code 5 = .ok (.aload_n 0, 1) := by decide +kernel
theorem e5_6 : decode jdk_42_method_54_code 6 = .ok (.invokevirtual 335, 3) := by decide +kernel
theorem e6_0 : decode jdk_42_method_152_code 0 = .ok (.getstatic 38, 3) := by decide +kernel
theorem e6_3 : decode jdk_42_method_152_code 3 = .ok (.ifCond .eq 10, 3) := by decide +kernel
theorem e6_6 : decode jdk_42_method_152_code 6 = .ok (.aload_n 0, 1) := by decide +kernel
theorem e6_7 : decode jdk_42_method_152_code 7 = .ok (.getfield 15, 3) := by decide +kernel
theorem e6_10 : decode jdk_42_method_152_code 10 = .ok (.goto 4, 3) := by decide +kernel
theorem e6_14 : decode jdk_42_method_152_code 14 = .ok (.ireturn, 1) := by decide +kernel
theorem e5_9 : decode jdk_42_method_54_code 9 = .ok (.ishr, 1) := by decide +kernel
theorem e5_10 : decode jdk_42_method_54_code 10 = .ok (.ireturn, 1) := by decide +kernel
theorem e7_0 : decode jdk_43_method_2_code 0 = .ok (.iload_n 1, 1) := by decide +kernel
theorem e7_1 : decode jdk_43_method_2_code 1 = .ok (.aload_n 0, 1) := by decide +kernel
theorem e7_2 : decode jdk_43_method_2_code 2 = .ok (.arraylength, 1) := by decide +kernel
theorem e7_3 : decode jdk_43_method_2_code 3 = .ok (.invokestatic 9, 3) := by decide +kernel
theorem e8_0 : decode jdk_42_method_155_code 0 = .ok (.iload_n 0, 1) := by decide +kernel
theorem e8_1 : decode jdk_42_method_155_code 1 = .ok (.iload_n 1, 1) := by decide +kernel
theorem e8_2 : decode jdk_42_method_155_code 2 = .ok (.getstatic 1053, 3) := by decide +kernel
theorem e8_5 : decode jdk_42_method_155_code 5 = .ok (.invokestatic 1059, 3) := by decide +kernel
theorem e9_0 : decode jdk_41_method_11_code 0 = .ok (.iload_n 0, 1) := by decide +kernel
theorem e9_1 : decode jdk_41_method_11_code 1 = .ok (.ifCond .lt 8, 3) := by decide +kernel
theorem e9_4 : decode jdk_41_method_11_code 4 = .ok (.iload_n 0, 1) := by decide +kernel
theorem e9_5 : decode jdk_41_method_11_code 5 = .ok (.iload_n 1, 1) := by decide +kernel
theorem e9_6 : decode jdk_41_method_11_code 6 = .ok (.if_icmp .lt 10, 3) := by decide +kernel
theorem e9_16 : decode jdk_41_method_11_code 16 = .ok (.iload_n 0, 1) := by decide +kernel
theorem e9_17 : decode jdk_41_method_11_code 17 = .ok (.ireturn, 1) := by decide +kernel
theorem e8_8 : decode jdk_42_method_155_code 8 = .ok (.pop, 1) := by decide +kernel
theorem e8_9 : decode jdk_42_method_155_code 9 = .ok (.return_, 1) := by decide +kernel
theorem e7_6 : decode jdk_43_method_2_code 6 = .ok (.aload_n 0, 1) := by decide +kernel
theorem e7_7 : decode jdk_43_method_2_code 7 = .ok (.iload_n 1, 1) := by decide +kernel
theorem e7_8 : decode jdk_43_method_2_code 8 = .ok (.baload, 1) := by decide +kernel
theorem e7_9 : decode jdk_43_method_2_code 9 = .ok (.sipush 255, 3) := by decide +kernel
theorem e7_12 : decode jdk_43_method_2_code 12 = .ok (.iand, 1) := by decide +kernel
theorem e7_13 : decode jdk_43_method_2_code 13 = .ok (.i2c, 1) := by decide +kernel
theorem e7_14 : decode jdk_43_method_2_code 14 = .ok (.ireturn, 1) := by decide +kernel
theorem e10_0 : decode jdk_42_method_56_code 0 = .ok (.aload_n 0, 1) := by decide +kernel
theorem e10_1 : decode jdk_42_method_56_code 1 = .ok (.invokevirtual 492, 3) := by decide +kernel
theorem e11_0 : decode jdk_42_method_154_code 0 = .ok (.getstatic 38, 3) := by decide +kernel
theorem e11_3 : decode jdk_42_method_154_code 3 = .ok (.ifCond .eq 14, 3) := by decide +kernel
theorem e11_6 : decode jdk_42_method_154_code 6 = .ok (.aload_n 0, 1) := by decide +kernel
theorem e11_7 : decode jdk_42_method_154_code 7 = .ok (.getfield 15, 3) := by decide +kernel
theorem e11_10 : decode jdk_42_method_154_code 10 = .ok (.ifCond .ne 7, 3) := by decide +kernel
theorem e11_13 : decode jdk_42_method_154_code 13 = .ok (.iconst 1, 1) := by decide +kernel
theorem e11_14 : decode jdk_42_method_154_code 14 = .ok (.goto 4, 3) := by decide +kernel
theorem e11_18 : decode jdk_42_method_154_code 18 = .ok (.ireturn, 1) := by decide +kernel
theorem e10_4 : decode jdk_42_method_56_code 4 = .ok (.ifCond .eq 12, 3) := by decide +kernel
theorem e10_7 : decode jdk_42_method_56_code 7 = .ok (.aload_n 0, 1) := by decide +kernel
theorem e10_8 : decode jdk_42_method_56_code 8 = .ok (.getfield 9, 3) := by decide +kernel
theorem e10_11 : decode jdk_42_method_56_code 11 = .ok (.iload_n 1, 1) := by decide +kernel
theorem e10_12 : decode jdk_42_method_56_code 12 = .ok (.invokestatic 495, 3) := by decide +kernel
theorem e10_15 : decode jdk_42_method_56_code 15 = .ok (.ireturn, 1) := by decide +kernel
theorem e12_0 : decode jdk_29_method_69_code 0 = .ok (.iload_n 0, 1) := by decide +kernel
theorem e12_1 : decode jdk_29_method_69_code 1 = .ok (.iload_n 1, 1) := by decide +kernel
theorem e12_2 : decode jdk_29_method_69_code 2 = .ok (.if_icmp .gt 7, 3) := by decide +kernel
theorem e12_9 : decode jdk_29_method_69_code 9 = .ok (.iload_n 1, 1) := by decide +kernel
theorem e12_10 : decode jdk_29_method_69_code 10 = .ok (.ireturn, 1) := by decide +kernel
theorem e12_5 : decode jdk_29_method_69_code 5 = .ok (.iload_n 0, 1) := by decide +kernel
theorem e12_6 : decode jdk_29_method_69_code 6 = .ok (.goto 4, 3) := by decide +kernel
theorem e13_0 : decode jdk_65_method_133_code 0 = .ok (.iload_n 1, 1) := by decide +kernel
theorem e13_1 : decode jdk_65_method_133_code 1 = .ok (.iload_n 2, 1) := by decide +kernel
theorem e13_2 : decode jdk_65_method_133_code 2 = .ok (.invokestatic 343, 3) := by decide +kernel
theorem e14_0 : decode jdk_65_method_131_code 0 = .ok (.iload_n 1, 1) := by decide +kernel
theorem e14_1 : decode jdk_65_method_131_code 1 = .ok (.iload_n 0, 1) := by decide +kernel
theorem e14_2 : decode jdk_65_method_131_code 2 = .ok (.if_icmp .ge 35, 3) := by decide +kernel
theorem e14_37 : decode jdk_65_method_131_code 37 = .ok (.return_, 1) := by decide +kernel
theorem e13_5 : decode jdk_65_method_133_code 5 = .ok (.iload_n 2, 1) := by decide +kernel
theorem e13_6 : decode jdk_65_method_133_code 6 = .ok (.iload_n 1, 1) := by decide +kernel
theorem e13_7 : decode jdk_65_method_133_code 7 = .ok (.isub, 1) := by decide +kernel
theorem e13_8 : decode jdk_65_method_133_code 8 = .ok (.istore_n 3, 1) := by decide +kernel
theorem e13_9 : decode jdk_65_method_133_code 9 = .ok (.iload_n 3, 1) := by decide +kernel
theorem e13_10 : decode jdk_65_method_133_code 10 = .ok (.newarray .byte, 2) := by decide +kernel
theorem e13_12 : decode jdk_65_method_133_code 12 = .ok (.astore 4, 2) := by decide +kernel
theorem e13_14 : decode jdk_65_method_133_code 14 = .ok (.aload_n 0, 1) := by decide +kernel
theorem e13_15 : decode jdk_65_method_133_code 15 = .ok (.iload_n 1, 1) := by decide +kernel
theorem e13_16 : decode jdk_65_method_133_code 16 = .ok (.aload 4, 2) := by decide +kernel
theorem e13_18 : decode jdk_65_method_133_code 18 = .ok (.iconst 0, 1) := by decide +kernel
theorem e13_19 : decode jdk_65_method_133_code 19 = .ok (.aload_n 0, 1) := by decide +kernel
theorem e13_20 : decode jdk_65_method_133_code 20 = .ok (.arraylength, 1) := by decide +kernel
theorem e13_21 : decode jdk_65_method_133_code 21 = .ok (.iload_n 1, 1) := by decide +kernel
theorem e13_22 : decode jdk_65_method_133_code 22 = .ok (.isub, 1) := by decide +kernel
theorem e13_23 : decode jdk_65_method_133_code 23 = .ok (.iload_n 3, 1) := by decide +kernel
theorem e13_24 : decode jdk_65_method_133_code 24 = .ok (.invokestatic 304, 3) := by decide +kernel
theorem e13_27 : decode jdk_65_method_133_code 27 = .ok (.invokestatic 150, 3) := by decide +kernel
theorem e13_30 : decode jdk_65_method_133_code 30 = .ok (.aload 4, 2) := by decide +kernel
theorem e13_32 : decode jdk_65_method_133_code 32 = .ok (.areturn, 1) := by decide +kernel
theorem e15_0 : decode jdk_65_method_132_code 0 = .ok (.iload_n 1, 1) := by decide +kernel
theorem e15_1 : decode jdk_65_method_132_code 1 = .ok (.ifCond .ne 9, 3) := by decide +kernel
theorem e15_4 : decode jdk_65_method_132_code 4 = .ok (.iload_n 2, 1) := by decide +kernel
theorem e15_5 : decode jdk_65_method_132_code 5 = .ok (.aload_n 0, 1) := by decide +kernel
theorem e15_6 : decode jdk_65_method_132_code 6 = .ok (.arraylength, 1) := by decide +kernel
theorem e15_7 : decode jdk_65_method_132_code 7 = .ok (.if_icmp .eq 10, 3) := by decide +kernel
theorem e15_10 : decode jdk_65_method_132_code 10 = .ok (.aload_n 0, 1) := by decide +kernel
theorem e15_11 : decode jdk_65_method_132_code 11 = .ok (.iload_n 1, 1) := by decide +kernel
theorem e15_12 : decode jdk_65_method_132_code 12 = .ok (.iload_n 2, 1) := by decide +kernel
theorem e15_13 : decode jdk_65_method_132_code 13 = .ok (.invokestatic 339, 3) := by decide +kernel
theorem e15_16 : decode jdk_65_method_132_code 16 = .ok (.areturn, 1) := by decide +kernel
theorem e16_0 : decode jdk_43_method_47_code 0 = .ok (.iload_n 2, 1) := by decide +kernel
theorem e16_1 : decode jdk_43_method_47_code 1 = .ok (.ifCond .ne 6, 3) := by decide +kernel
theorem e16_4 : decode jdk_43_method_47_code 4 = .ok (.ldc 151, 2) := by decide +kernel
theorem e16_6 : decode jdk_43_method_47_code 6 = .ok (.areturn, 1) := by decide +kernel
theorem e16_7 : decode jdk_43_method_47_code 7 = .ok (.new 1, 3) := by decide +kernel
theorem e16_10 : decode jdk_43_method_47_code 10 = .ok (.dup, 1) := by decide +kernel
theorem e16_11 : decode jdk_43_method_47_code 11 = .ok (.aload_n 0, 1) := by decide +kernel
theorem e16_12 : decode jdk_43_method_47_code 12 = .ok (.iload_n 1, 1) := by decide +kernel
theorem e16_13 : decode jdk_43_method_47_code 13 = .ok (.iload_n 1, 1) := by decide +kernel
theorem e16_14 : decode jdk_43_method_47_code 14 = .ok (.iload_n 2, 1) := by decide +kernel
theorem e16_15 : decode jdk_43_method_47_code 15 = .ok (.iadd, 1) := by decide +kernel
theorem e16_16 : decode jdk_43_method_47_code 16 = .ok (.invokestatic 232, 3) := by decide +kernel
theorem e16_19 : decode jdk_43_method_47_code 19 = .ok (.iconst 0, 1) := by decide +kernel
theorem e16_20 : decode jdk_43_method_47_code 20 = .ok (.invokespecial 112, 3) := by decide +kernel
theorem e17_0 : decode jdk_42_method_151_code 0 = .ok (.aload_n 0, 1) := by decide +kernel
theorem e17_1 : decode jdk_42_method_151_code 1 = .ok (.invokespecial 1, 3) := by decide +kernel
theorem e17_4 : decode jdk_42_method_151_code 4 = .ok (.aload_n 0, 1) := by decide +kernel
theorem e17_5 : decode jdk_42_method_151_code 5 = .ok (.aload_n 1, 1) := by decide +kernel
theorem e17_6 : decode jdk_42_method_151_code 6 = .ok (.putfield 9, 3) := by decide +kernel
theorem e17_9 : decode jdk_42_method_151_code 9 = .ok (.aload_n 0, 1) := by decide +kernel
theorem e17_10 : decode jdk_42_method_151_code 10 = .ok (.iload_n 2, 1) := by decide +kernel
theorem e17_11 : decode jdk_42_method_151_code 11 = .ok (.putfield 15, 3) := by decide +kernel
theorem e17_14 : decode jdk_42_method_151_code 14 = .ok (.return_, 1) := by decide +kernel
theorem e16_23 : decode jdk_43_method_47_code 23 = .ok (.areturn, 1) := by decide +kernel
theorem e18_0 : decode jdk_42_method_92_code 0 = .ok (.aload_n 0, 1) := by decide +kernel
theorem e18_1 : decode jdk_42_method_92_code 1 = .ok (.invokevirtual 505, 3) := by decide +kernel
theorem e18_4 : decode jdk_42_method_92_code 4 = .ok (.istore_n 3, 1) := by decide +kernel
theorem e18_5 : decode jdk_42_method_92_code 5 = .ok (.iload_n 1, 1) := by decide +kernel
theorem e18_6 : decode jdk_42_method_92_code 6 = .ok (.iload_n 2, 1) := by decide +kernel
theorem e18_7 : decode jdk_42_method_92_code 7 = .ok (.iload_n 3, 1) := by decide +kernel
theorem e18_8 : decode jdk_42_method_92_code 8 = .ok (.invokestatic 521, 3) := by decide +kernel
theorem e19_0 : decode jdk_42_method_158_code 0 = .ok (.iload_n 0, 1) := by decide +kernel
theorem e19_1 : decode jdk_42_method_158_code 1 = .ok (.iload_n 1, 1) := by decide +kernel
theorem e19_2 : decode jdk_42_method_158_code 2 = .ok (.iload_n 2, 1) := by decide +kernel
theorem e19_3 : decode jdk_42_method_158_code 3 = .ok (.getstatic 1053, 3) := by decide +kernel
theorem e19_6 : decode jdk_42_method_158_code 6 = .ok (.invokestatic 1062, 3) := by decide +kernel
theorem e20_0 : decode jdk_41_method_12_code 0 = .ok (.iload_n 0, 1) := by decide +kernel
theorem e20_1 : decode jdk_41_method_12_code 1 = .ok (.ifCond .lt 13, 3) := by decide +kernel
theorem e20_4 : decode jdk_41_method_12_code 4 = .ok (.iload_n 0, 1) := by decide +kernel
theorem e20_5 : decode jdk_41_method_12_code 5 = .ok (.iload_n 1, 1) := by decide +kernel
theorem e20_6 : decode jdk_41_method_12_code 6 = .ok (.if_icmp .gt 8, 3) := by decide +kernel
theorem e20_9 : decode jdk_41_method_12_code 9 = .ok (.iload_n 1, 1) := by decide +kernel
theorem e20_10 : decode jdk_41_method_12_code 10 = .ok (.iload_n 2, 1) := by decide +kernel
theorem e20_11 : decode jdk_41_method_12_code 11 = .ok (.if_icmp .le 11, 3) := by decide +kernel
theorem e20_22 : decode jdk_41_method_12_code 22 = .ok (.iload_n 0, 1) := by decide +kernel
theorem e20_23 : decode jdk_41_method_12_code 23 = .ok (.ireturn, 1) := by decide +kernel
theorem e19_9 : decode jdk_42_method_158_code 9 = .ok (.pop, 1) := by decide +kernel
theorem e19_10 : decode jdk_42_method_158_code 10 = .ok (.return_, 1) := by decide +kernel
theorem e18_11 : decode jdk_42_method_92_code 11 = .ok (.iload_n 1, 1) := by decide +kernel
theorem e18_12 : decode jdk_42_method_92_code 12 = .ok (.ifCond .ne 10, 3) := by decide +kernel
theorem e18_15 : decode jdk_42_method_92_code 15 = .ok (.iload_n 2, 1) := by decide +kernel
theorem e18_16 : decode jdk_42_method_92_code 16 = .ok (.iload_n 3, 1) := by decide +kernel
theorem e18_17 : decode jdk_42_method_92_code 17 = .ok (.if_icmp .ne 5, 3) := by decide +kernel
theorem e18_20 : decode jdk_42_method_92_code 20 = .ok (.aload_n 0, 1) := by decide +kernel
theorem e18_21 : decode jdk_42_method_92_code 21 = .ok (.areturn, 1) := by decide +kernel
theorem e18_22 : decode jdk_42_method_92_code 22 = .ok (.iload_n 2, 1) := by decide +kernel
theorem e18_23 : decode jdk_42_method_92_code 23 = .ok (.iload_n 1, 1) := by decide +kernel
theorem e18_24 : decode jdk_42_method_92_code 24 = .ok (.isub, 1) := by decide +kernel
theorem e18_25 : decode jdk_42_method_92_code 25 = .ok (.istore 4, 2) := by decide +kernel
theorem e18_27 : decode jdk_42_method_92_code 27 = .ok (.aload_n 0, 1) := by decide +kernel
theorem e18_28 : decode jdk_42_method_92_code 28 = .ok (.invokevirtual 492, 3) := by decide +kernel
theorem e18_31 : decode jdk_42_method_92_code 31 = .ok (.ifCond .eq 16, 3) := by decide +kernel
theorem e18_34 : decode jdk_42_method_92_code 34 = .ok (.aload_n 0, 1) := by decide +kernel
theorem e18_35 : decode jdk_42_method_92_code 35 = .ok (.getfield 9, 3) := by decide +kernel
theorem e18_38 : decode jdk_42_method_92_code 38 = .ok (.iload_n 1, 1) := by decide +kernel
theorem e18_39 : decode jdk_42_method_92_code 39 = .ok (.iload 4, 2) := by decide +kernel
theorem e18_41 : decode jdk_42_method_92_code 41 = .ok (.invokestatic 685, 3) := by decide +kernel
theorem e18_44 : decode jdk_42_method_92_code 44 = .ok (.goto 13, 3) := by decide +kernel
theorem e18_57 : decode jdk_42_method_92_code 57 = .ok (.areturn, 1) := by decide +kernel
theorem e21_0 : decode method_4_code 0 = .ok (.lload 5, 2) := by decide +kernel
theorem e21_2 : decode method_4_code 2 = .ok (.bipush 8, 2) := by decide +kernel
theorem e21_4 : decode method_4_code 4 = .ok (.iload_n 0, 1) := by decide +kernel
theorem e21_5 : decode method_4_code 5 = .ok (.imul, 1) := by decide +kernel
theorem e21_6 : decode method_4_code 6 = .ok (.lushr, 1) := by decide +kernel
theorem e21_7 : decode method_4_code 7 = .ok (.l2i, 1) := by decide +kernel
theorem e21_8 : decode method_4_code 8 = .ok (.bipush 7, 2) := by decide +kernel
theorem e21_10 : decode method_4_code 10 = .ok (.iand, 1) := by decide +kernel
theorem e21_11 : decode method_4_code 11 = .ok (.istore 7, 2) := by decide +kernel
theorem e21_13 : decode method_4_code 13 = .ok (.lload_n 3, 1) := by decide +kernel
theorem e21_14 : decode method_4_code 14 = .ok (.bipush 8, 2) := by decide +kernel
theorem e21_16 : decode method_4_code 16 = .ok (.iload_n 0, 1) := by decide +kernel
theorem e21_17 : decode method_4_code 17 = .ok (.imul, 1) := by decide +kernel
theorem e21_18 : decode method_4_code 18 = .ok (.lushr, 1) := by decide +kernel
theorem e21_19 : decode method_4_code 19 = .ok (.l2i, 1) := by decide +kernel
theorem e21_20 : decode method_4_code 20 = .ok (.sipush 255, 3) := by decide +kernel
theorem e21_23 : decode method_4_code 23 = .ok (.iand, 1) := by decide +kernel
theorem e21_24 : decode method_4_code 24 = .ok (.istore 8, 2) := by decide +kernel
theorem e21_153 : decode method_4_code 153 = .ok (.iload 9, 2) := by decide +kernel
theorem e21_155 : decode method_4_code 155 = .ok (.ireturn, 1) := by decide +kernel
theorem e21_110 : decode method_4_code 110 = .ok (.iload_n 0, 1) := by decide +kernel
theorem e21_111 : decode method_4_code 111 = .ok (.iload_n 1, 1) := by decide +kernel
theorem e21_112 : decode method_4_code 112 = .ok (.iconst 1, 1) := by decide +kernel
theorem e21_113 : decode method_4_code 113 = .ok (.isub, 1) := by decide +kernel
theorem e21_114 : decode method_4_code 114 = .ok (.if_icmp .ne 39, 3) := by decide +kernel
theorem e21_117 : decode method_4_code 117 = .ok (.iload 9, 2) := by decide +kernel
theorem e21_119 : decode method_4_code 119 = .ok (.bipush 32, 2) := by decide +kernel
theorem e21_121 : decode method_4_code 121 = .ok (.if_icmp .eq 28, 3) := by decide +kernel
theorem e21_149 : decode method_4_code 149 = .ok (.bipush 121, 2) := by decide +kernel
theorem e21_151 : decode method_4_code 151 = .ok (.istore 9, 2) := by decide +kernel
theorem e21_124 : decode method_4_code 124 = .ok (.iload_n 2, 1) := by decide +kernel
theorem e21_125 : decode method_4_code 125 = .ok (.ifCond .ne 28, 3) := by decide +kernel
theorem e21_128 : decode method_4_code 128 = .ok (.iload 9, 2) := by decide +kernel
theorem e21_130 : decode method_4_code 130 = .ok (.bipush 59, 2) := by decide +kernel
theorem e21_132 : decode method_4_code 132 = .ok (.if_icmp .eq 17, 3) := by decide +kernel
theorem e21_135 : decode method_4_code 135 = .ok (.iload 9, 2) := by decide +kernel
theorem e21_137 : decode method_4_code 137 = .ok (.bipush 44, 2) := by decide +kernel
theorem e21_139 : decode method_4_code 139 = .ok (.if_icmp .eq 10, 3) := by decide +kernel
theorem e21_142 : decode method_4_code 142 = .ok (.iload 9, 2) := by decide +kernel
theorem e21_144 : decode method_4_code 144 = .ok (.bipush 58, 2) := by decide +kernel
theorem e21_146 : decode method_4_code 146 = .ok (.if_icmp .ne 7, 3) := by decide +kernel
theorem e21_95 : decode method_4_code 95 = .ok (.iload_n 0, 1) := by decide +kernel
theorem e21_96 : decode method_4_code 96 = .ok (.ifCond .ne 14, 3) := by decide +kernel
theorem e21_99 : decode method_4_code 99 = .ok (.iload 9, 2) := by decide +kernel
theorem e21_101 : decode method_4_code 101 = .ok (.bipush 32, 2) := by decide +kernel
theorem e21_103 : decode method_4_code 103 = .ok (.if_icmp .ne 7, 3) := by decide +kernel
theorem e21_106 : decode method_4_code 106 = .ok (.bipush 120, 2) := by decide +kernel
theorem e21_108 : decode method_4_code 108 = .ok (.istore 9, 2) := by decide +kernel
theorem e21_26 : decode method_4_code 26 = .ok (.iload 7, 2) := by decide +kernel
theorem e21_28 : decode method_4_code 28 = .ok (.ifCond .ne 10, 3) := by decide +kernel
theorem e21_31 : decode method_4_code 31 = .ok (.bipush 32, 2) := by decide +kernel
theorem e21_33 : decode method_4_code 33 = .ok (.istore 9, 2) := by decide +kernel
theorem e21_35 : decode method_4_code 35 = .ok (.goto 60, 3) := by decide +kernel
theorem e21_38 : decode method_4_code 38 = .ok (.iload 7, 2) := by decide +kernel
theorem e21_40 : decode method_4_code 40 = .ok (.iconst 1, 1) := by decide +kernel
theorem e21_41 : decode method_4_code 41 = .ok (.if_icmp .ne 10, 3) := by decide +kernel
theorem e21_44 : decode method_4_code 44 = .ok (.bipush 59, 2) := by decide +kernel
theorem e21_46 : decode method_4_code 46 = .ok (.istore 9, 2) := by decide +kernel
theorem e21_48 : decode method_4_code 48 = .ok (.goto 47, 3) := by decide +kernel
theorem e21_51 : decode method_4_code 51 = .ok (.iload 7, 2) := by decide +kernel
theorem e21_53 : decode method_4_code 53 = .ok (.iconst 2, 1) := by decide +kernel
theorem e21_54 : decode method_4_code 54 = .ok (.if_icmp .ne 10, 3) := by decide +kernel
theorem e21_57 : decode method_4_code 57 = .ok (.bipush 44, 2) := by decide +kernel
theorem e21_59 : decode method_4_code 59 = .ok (.istore 9, 2) := by decide +kernel
theorem e21_61 : decode method_4_code 61 = .ok (.goto 34, 3) := by decide +kernel
theorem e21_64 : decode method_4_code 64 = .ok (.iload 7, 2) := by decide +kernel
theorem e21_66 : decode method_4_code 66 = .ok (.iconst 3, 1) := by decide +kernel
theorem e21_67 : decode method_4_code 67 = .ok (.if_icmp .ne 10, 3) := by decide +kernel
theorem e21_70 : decode method_4_code 70 = .ok (.bipush 58, 2) := by decide +kernel
theorem e21_72 : decode method_4_code 72 = .ok (.istore 9, 2) := by decide +kernel
theorem e21_74 : decode method_4_code 74 = .ok (.goto 21, 3) := by decide +kernel
theorem e21_77 : decode method_4_code 77 = .ok (.iload 7, 2) := by decide +kernel
theorem e21_79 : decode method_4_code 79 = .ok (.iconst 4, 1) := by decide +kernel
theorem e21_80 : decode method_4_code 80 = .ok (.if_icmp .ne 10, 3) := by decide +kernel
theorem e21_83 : decode method_4_code 83 = .ok (.bipush 46, 2) := by decide +kernel
theorem e21_85 : decode method_4_code 85 = .ok (.istore 9, 2) := by decide +kernel
theorem e21_87 : decode method_4_code 87 = .ok (.goto 8, 3) := by decide +kernel
theorem e21_90 : decode method_4_code 90 = .ok (.iload 8, 2) := by decide +kernel
theorem e21_92 : decode method_4_code 92 = .ok (.i2c, 1) := by decide +kernel
theorem e21_93 : decode method_4_code 93 = .ok (.istore 9, 2) := by decide +kernel
theorem e22_0 : decode method_3_code 0 = .ok (.iload_n 0, 1) := by decide +kernel
theorem e22_1 : decode method_3_code 1 = .ok (.iload_n 1, 1) := by decide +kernel
theorem e22_2 : decode method_3_code 2 = .ok (.if_icmp .ge 6, 3) := by decide +kernel
theorem e22_5 : decode method_3_code 5 = .ok (.bipush 32, 2) := by decide +kernel
theorem e22_7 : decode method_3_code 7 = .ok (.ireturn, 1) := by decide +kernel
theorem e22_8 : decode method_3_code 8 = .ok (.iload_n 0, 1) := by decide +kernel
theorem e22_9 : decode method_3_code 9 = .ok (.iload_n 1, 1) := by decide +kernel
theorem e22_10 : decode method_3_code 10 = .ok (.iload_n 2, 1) := by decide +kernel
theorem e22_11 : decode method_3_code 11 = .ok (.iadd, 1) := by decide +kernel
theorem e22_12 : decode method_3_code 12 = .ok (.if_icmp .ge 17, 3) := by decide +kernel
theorem e22_15 : decode method_3_code 15 = .ok (.iload_n 0, 1) := by decide +kernel
theorem e22_16 : decode method_3_code 16 = .ok (.iload_n 1, 1) := by decide +kernel
theorem e22_17 : decode method_3_code 17 = .ok (.isub, 1) := by decide +kernel
theorem e22_18 : decode method_3_code 18 = .ok (.iload_n 2, 1) := by decide +kernel
theorem e22_19 : decode method_3_code 19 = .ok (.iload 4, 2) := by decide +kernel
theorem e22_21 : decode method_3_code 21 = .ok (.lload 6, 2) := by decide +kernel
theorem e22_23 : decode method_3_code 23 = .ok (.lload 8, 2) := by decide +kernel
theorem e22_25 : decode method_3_code 25 = .ok (.invokestatic 41, 3) := by decide +kernel
theorem e22_28 : decode method_3_code 28 = .ok (.ireturn, 1) := by decide +kernel
theorem e22_29 : decode method_3_code 29 = .ok (.iload_n 0, 1) := by decide +kernel
theorem e22_30 : decode method_3_code 30 = .ok (.iload_n 1, 1) := by decide +kernel
theorem e22_31 : decode method_3_code 31 = .ok (.iload_n 2, 1) := by decide +kernel
theorem e22_32 : decode method_3_code 32 = .ok (.iadd, 1) := by decide +kernel
theorem e22_33 : decode method_3_code 33 = .ok (.iload_n 3, 1) := by decide +kernel
theorem e22_34 : decode method_3_code 34 = .ok (.iadd, 1) := by decide +kernel
theorem e22_35 : decode method_3_code 35 = .ok (.if_icmp .ge 6, 3) := by decide +kernel
theorem e22_38 : decode method_3_code 38 = .ok (.bipush 32, 2) := by decide +kernel
theorem e22_40 : decode method_3_code 40 = .ok (.ireturn, 1) := by decide +kernel
theorem e22_41 : decode method_3_code 41 = .ok (.iload_n 0, 1) := by decide +kernel
theorem e22_42 : decode method_3_code 42 = .ok (.iload_n 1, 1) := by decide +kernel
theorem e22_43 : decode method_3_code 43 = .ok (.iload_n 2, 1) := by decide +kernel
theorem e22_44 : decode method_3_code 44 = .ok (.iadd, 1) := by decide +kernel
theorem e22_45 : decode method_3_code 45 = .ok (.iload_n 3, 1) := by decide +kernel
theorem e22_46 : decode method_3_code 46 = .ok (.iadd, 1) := by decide +kernel
theorem e22_47 : decode method_3_code 47 = .ok (.iload 4, 2) := by decide +kernel
theorem e22_49 : decode method_3_code 49 = .ok (.iadd, 1) := by decide +kernel
theorem e22_50 : decode method_3_code 50 = .ok (.if_icmp .ge 6, 3) := by decide +kernel
theorem e22_53 : decode method_3_code 53 = .ok (.iload 5, 2) := by decide +kernel
theorem e22_55 : decode method_3_code 55 = .ok (.ireturn, 1) := by decide +kernel
theorem e22_56 : decode method_3_code 56 = .ok (.bipush 32, 2) := by decide +kernel
theorem e22_58 : decode method_3_code 58 = .ok (.ireturn, 1) := by decide +kernel
theorem e23_0 : decode prog_11_method_5_code 0 = .ok (.iload_n 2, 1) := by decide +kernel
theorem e23_1 : decode prog_11_method_5_code 1 = .ok (.istore_n 3, 1) := by decide +kernel
theorem e23_2 : decode prog_11_method_5_code 2 = .ok (.iload_n 3, 1) := by decide +kernel
theorem e23_3 : decode prog_11_method_5_code 3 = .ok (.iload_n 1, 1) := by decide +kernel
theorem e23_4 : decode prog_11_method_5_code 4 = .ok (.if_icmp .le 24, 3) := by decide +kernel
theorem e23_7 : decode prog_11_method_5_code 7 = .ok (.aload_n 0, 1) := by decide +kernel
theorem e23_8 : decode prog_11_method_5_code 8 = .ok (.getfield 13, 3) := by decide +kernel
theorem e23_11 : decode prog_11_method_5_code 11 = .ok (.iload_n 3, 1) := by decide +kernel
theorem e23_12 : decode prog_11_method_5_code 12 = .ok (.iconst 1, 1) := by decide +kernel
theorem e23_13 : decode prog_11_method_5_code 13 = .ok (.isub, 1) := by decide +kernel
theorem e23_14 : decode prog_11_method_5_code 14 = .ok (.invokevirtual 23, 3) := by decide +kernel
theorem e23_17 : decode prog_11_method_5_code 17 = .ok (.bipush 32, 2) := by decide +kernel
theorem e23_19 : decode prog_11_method_5_code 19 = .ok (.if_icmp .ne 9, 3) := by decide +kernel
theorem e23_22 : decode prog_11_method_5_code 22 = .ok (.iinc 3 (-1), 3) := by decide +kernel
theorem e23_25 : decode prog_11_method_5_code 25 = .ok (.goto (-23), 3) := by decide +kernel
theorem e23_28 : decode prog_11_method_5_code 28 = .ok (.iload_n 3, 1) := by decide +kernel
theorem e23_29 : decode prog_11_method_5_code 29 = .ok (.ireturn, 1) := by decide +kernel
theorem e24_0 : decode prog_11_method_4_code 0 = .ok (.iload_n 2, 1) := by decide +kernel
theorem e24_1 : decode prog_11_method_4_code 1 = .ok (.iload_n 1, 1) := by decide +kernel
theorem e24_2 : decode prog_11_method_4_code 2 = .ok (.if_icmp .le 32, 3) := by decide +kernel
theorem e24_5 : decode prog_11_method_4_code 5 = .ok (.ldc 38, 2) := by decide +kernel
theorem e24_7 : decode prog_11_method_4_code 7 = .ok (.aload_n 0, 1) := by decide +kernel
theorem e24_8 : decode prog_11_method_4_code 8 = .ok (.getfield 13, 3) := by decide +kernel
theorem e24_11 : decode prog_11_method_4_code 11 = .ok (.iload_n 2, 1) := by decide +kernel
theorem e24_12 : decode prog_11_method_4_code 12 = .ok (.iconst 1, 1) := by decide +kernel
theorem e24_13 : decode prog_11_method_4_code 13 = .ok (.isub, 1) := by decide +kernel
theorem e24_14 : decode prog_11_method_4_code 14 = .ok (.invokevirtual 23, 3) := by decide +kernel
theorem e24_17 : decode prog_11_method_4_code 17 = .ok (.invokevirtual 40, 3) := by decide +kernel
theorem e25_0 : decode jdk_42_method_79_code 0 = .ok (.aload_n 0, 1) := by decide +kernel
theorem e25_1 : decode jdk_42_method_79_code 1 = .ok (.iload_n 1, 1) := by decide +kernel
theorem e25_2 : decode jdk_42_method_79_code 2 = .ok (.iconst 0, 1) := by decide +kernel
theorem e25_3 : decode jdk_42_method_79_code 3 = .ok (.invokevirtual 633, 3) := by decide +kernel
theorem e26_0 : decode jdk_42_method_80_code 0 = .ok (.aload_n 0, 1) := by decide +kernel
theorem e26_1 : decode jdk_42_method_80_code 1 = .ok (.invokevirtual 492, 3) := by decide +kernel
theorem e26_4 : decode jdk_42_method_80_code 4 = .ok (.ifCond .eq 19, 3) := by decide +kernel
theorem e26_7 : decode jdk_42_method_80_code 7 = .ok (.aload_n 0, 1) := by decide +kernel
theorem e26_8 : decode jdk_42_method_80_code 8 = .ok (.getfield 9, 3) := by decide +kernel
theorem e26_11 : decode jdk_42_method_80_code 11 = .ok (.iload_n 1, 1) := by decide +kernel
theorem e26_12 : decode jdk_42_method_80_code 12 = .ok (.iload_n 2, 1) := by decide +kernel
theorem e26_13 : decode jdk_42_method_80_code 13 = .ok (.aload_n 0, 1) := by decide +kernel
theorem e26_14 : decode jdk_42_method_80_code 14 = .ok (.invokevirtual 505, 3) := by decide +kernel
theorem e26_17 : decode jdk_42_method_80_code 17 = .ok (.invokestatic 637, 3) := by decide +kernel
theorem e27_0 : decode jdk_43_method_22_code 0 = .ok (.iload_n 1, 1) := by decide +kernel
theorem e27_1 : decode jdk_43_method_22_code 1 = .ok (.invokestatic 88, 3) := by decide +kernel
theorem e28_0 : decode jdk_43_method_4_code 0 = .ok (.iload_n 0, 1) := by decide +kernel
theorem e28_1 : decode jdk_43_method_4_code 1 = .ok (.ifCond .lt 14, 3) := by decide +kernel
theorem e28_4 : decode jdk_43_method_4_code 4 = .ok (.iload_n 0, 1) := by decide +kernel
theorem e28_5 : decode jdk_43_method_4_code 5 = .ok (.sipush 255, 3) := by decide +kernel
theorem e28_8 : decode jdk_43_method_4_code 8 = .ok (.if_icmp .gt 7, 3) := by decide +kernel
theorem e28_11 : decode jdk_43_method_4_code 11 = .ok (.iconst 1, 1) := by decide +kernel
theorem e28_12 : decode jdk_43_method_4_code 12 = .ok (.goto 4, 3) := by decide +kernel
theorem e28_16 : decode jdk_43_method_4_code 16 = .ok (.ireturn, 1) := by decide +kernel
theorem e27_4 : decode jdk_43_method_22_code 4 = .ok (.ifCond .ne 5, 3) := by decide +kernel
theorem e27_9 : decode jdk_43_method_22_code 9 = .ok (.iload_n 2, 1) := by decide +kernel
theorem e27_10 : decode jdk_43_method_22_code 10 = .ok (.iconst 0, 1) := by decide +kernel
theorem e27_11 : decode jdk_43_method_22_code 11 = .ok (.invokestatic 92, 3) := by decide +kernel
theorem e29_0 : decode jdk_29_method_65_code 0 = .ok (.iload_n 0, 1) := by decide +kernel
theorem e29_1 : decode jdk_29_method_65_code 1 = .ok (.iload_n 1, 1) := by decide +kernel
theorem e29_2 : decode jdk_29_method_65_code 2 = .ok (.if_icmp .lt 7, 3) := by decide +kernel
theorem e29_5 : decode jdk_29_method_65_code 5 = .ok (.iload_n 0, 1) := by decide +kernel
theorem e29_6 : decode jdk_29_method_65_code 6 = .ok (.goto 4, 3) := by decide +kernel
theorem e29_10 : decode jdk_29_method_65_code 10 = .ok (.ireturn, 1) := by decide +kernel
theorem e27_14 : decode jdk_43_method_22_code 14 = .ok (.istore_n 2, 1) := by decide +kernel
theorem e27_15 : decode jdk_43_method_22_code 15 = .ok (.iload_n 3, 1) := by decide +kernel
theorem e27_16 : decode jdk_43_method_22_code 16 = .ok (.aload_n 0, 1) := by decide +kernel
theorem e27_17 : decode jdk_43_method_22_code 17 = .ok (.arraylength, 1) := by decide +kernel
theorem e27_18 : decode jdk_43_method_22_code 18 = .ok (.invokestatic 38, 3) := by decide +kernel
theorem e27_21 : decode jdk_43_method_22_code 21 = .ok (.istore_n 3, 1) := by decide +kernel
theorem e27_22 : decode jdk_43_method_22_code 22 = .ok (.iload_n 2, 1) := by decide +kernel
theorem e27_23 : decode jdk_43_method_22_code 23 = .ok (.iload_n 3, 1) := by decide +kernel
theorem e27_24 : decode jdk_43_method_22_code 24 = .ok (.if_icmp .lt 5, 3) := by decide +kernel
theorem e27_29 : decode jdk_43_method_22_code 29 = .ok (.aload_n 0, 1) := by decide +kernel
theorem e27_30 : decode jdk_43_method_22_code 30 = .ok (.iload_n 1, 1) := by decide +kernel
theorem e27_31 : decode jdk_43_method_22_code 31 = .ok (.iload_n 2, 1) := by decide +kernel
theorem e27_32 : decode jdk_43_method_22_code 32 = .ok (.iload_n 3, 1) := by decide +kernel
theorem e27_33 : decode jdk_43_method_22_code 33 = .ok (.invokestatic 95, 3) := by decide +kernel
theorem e30_0 : decode jdk_43_method_23_code 0 = .ok (.iload_n 1, 1) := by decide +kernel
theorem e30_1 : decode jdk_43_method_23_code 1 = .ok (.i2b, 1) := by decide +kernel
theorem e30_2 : decode jdk_43_method_23_code 2 = .ok (.istore 4, 2) := by decide +kernel
theorem e30_4 : decode jdk_43_method_23_code 4 = .ok (.iload_n 2, 1) := by decide +kernel
theorem e30_5 : decode jdk_43_method_23_code 5 = .ok (.istore 5, 2) := by decide +kernel
theorem e30_7 : decode jdk_43_method_23_code 7 = .ok (.iload 5, 2) := by decide +kernel
theorem e30_9 : decode jdk_43_method_23_code 9 = .ok (.iload_n 3, 1) := by decide +kernel
theorem e30_10 : decode jdk_43_method_23_code 10 = .ok (.if_icmp .ge 21, 3) := by decide +kernel
theorem e30_13 : decode jdk_43_method_23_code 13 = .ok (.aload_n 0, 1) := by decide +kernel
theorem e30_14 : decode jdk_43_method_23_code 14 = .ok (.iload 5, 2) := by decide +kernel
theorem e30_16 : decode jdk_43_method_23_code 16 = .ok (.baload, 1) := by decide +kernel
theorem e30_17 : decode jdk_43_method_23_code 17 = .ok (.iload 4, 2) := by decide +kernel
theorem e30_19 : decode jdk_43_method_23_code 19 = .ok (.if_icmp .ne 6, 3) := by decide +kernel
theorem e30_22 : decode jdk_43_method_23_code 22 = .ok (.iload 5, 2) := by decide +kernel
theorem e30_24 : decode jdk_43_method_23_code 24 = .ok (.ireturn, 1) := by decide +kernel
theorem e30_25 : decode jdk_43_method_23_code 25 = .ok (.iinc 5 1, 3) := by decide +kernel
theorem e30_28 : decode jdk_43_method_23_code 28 = .ok (.goto (-21), 3) := by decide +kernel
theorem e30_31 : decode jdk_43_method_23_code 31 = .ok (.iconst (-1), 1) := by decide +kernel
theorem e30_32 : decode jdk_43_method_23_code 32 = .ok (.ireturn, 1) := by decide +kernel
theorem e27_36 : decode jdk_43_method_22_code 36 = .ok (.ireturn, 1) := by decide +kernel
theorem e26_20 : decode jdk_42_method_80_code 20 = .ok (.goto 16, 3) := by decide +kernel
theorem e26_36 : decode jdk_42_method_80_code 36 = .ok (.ireturn, 1) := by decide +kernel
theorem e25_6 : decode jdk_42_method_79_code 6 = .ok (.ireturn, 1) := by decide +kernel
theorem e24_20 : decode prog_11_method_4_code 20 = .ok (.ifCond .lt 14, 3) := by decide +kernel
theorem e24_23 : decode prog_11_method_4_code 23 = .ok (.aload_n 0, 1) := by decide +kernel
theorem e24_24 : decode prog_11_method_4_code 24 = .ok (.iload_n 1, 1) := by decide +kernel
theorem e24_25 : decode prog_11_method_4_code 25 = .ok (.iload_n 2, 1) := by decide +kernel
theorem e24_26 : decode prog_11_method_4_code 26 = .ok (.iconst 1, 1) := by decide +kernel
theorem e24_27 : decode prog_11_method_4_code 27 = .ok (.isub, 1) := by decide +kernel
theorem e24_28 : decode prog_11_method_4_code 28 = .ok (.invokevirtual 27, 3) := by decide +kernel
theorem e24_31 : decode prog_11_method_4_code 31 = .ok (.goto 4, 3) := by decide +kernel
theorem e24_35 : decode prog_11_method_4_code 35 = .ok (.ireturn, 1) := by decide +kernel
theorem e24_34 : decode prog_11_method_4_code 34 = .ok (.iload_n 2, 1) := by decide +kernel
theorem e31_0 : decode prog_11_method_2_code 0 = .ok (.iconst 0, 1) := by decide +kernel
theorem e31_1 : decode prog_11_method_2_code 1 = .ok (.istore_n 1, 1) := by decide +kernel
theorem e31_2 : decode prog_11_method_2_code 2 = .ok (.iload_n 1, 1) := by decide +kernel
theorem e31_3 : decode prog_11_method_2_code 3 = .ok (.aload_n 0, 1) := by decide +kernel
theorem e31_4 : decode prog_11_method_2_code 4 = .ok (.getfield 13, 3) := by decide +kernel
theorem e31_7 : decode prog_11_method_2_code 7 = .ok (.invokevirtual 17, 3) := by decide +kernel
theorem e31_10 : decode prog_11_method_2_code 10 = .ok (.if_icmp .ge 22, 3) := by decide +kernel
theorem e31_13 : decode prog_11_method_2_code 13 = .ok (.aload_n 0, 1) := by decide +kernel
theorem e31_14 : decode prog_11_method_2_code 14 = .ok (.getfield 13, 3) := by decide +kernel
theorem e31_17 : decode prog_11_method_2_code 17 = .ok (.iload_n 1, 1) := by decide +kernel
theorem e31_18 : decode prog_11_method_2_code 18 = .ok (.invokevirtual 23, 3) := by decide +kernel
theorem e31_21 : decode prog_11_method_2_code 21 = .ok (.bipush 32, 2) := by decide +kernel
theorem e31_23 : decode prog_11_method_2_code 23 = .ok (.if_icmp .ne 9, 3) := by decide +kernel
theorem e31_26 : decode prog_11_method_2_code 26 = .ok (.iinc 1 1, 3) := by decide +kernel
theorem e31_29 : decode prog_11_method_2_code 29 = .ok (.goto (-27), 3) := by decide +kernel
theorem e31_32 : decode prog_11_method_2_code 32 = .ok (.aload_n 0, 1) := by decide +kernel
theorem e31_33 : decode prog_11_method_2_code 33 = .ok (.iload_n 1, 1) := by decide +kernel
theorem e31_34 : decode prog_11_method_2_code 34 = .ok (.aload_n 0, 1) := by decide +kernel
theorem e31_35 : decode prog_11_method_2_code 35 = .ok (.getfield 13, 3) := by decide +kernel
theorem e31_38 : decode prog_11_method_2_code 38 = .ok (.invokevirtual 17, 3) := by decide +kernel
theorem e31_41 : decode prog_11_method_2_code 41 = .ok (.invokevirtual 27, 3) := by decide +kernel
theorem e31_44 : decode prog_11_method_2_code 44 = .ok (.istore_n 2, 1) := by decide +kernel
theorem e31_45 : decode prog_11_method_2_code 45 = .ok (.aload_n 0, 1) := by decide +kernel
theorem e31_46 : decode prog_11_method_2_code 46 = .ok (.getfield 13, 3) := by decide +kernel
theorem e31_49 : decode prog_11_method_2_code 49 = .ok (.iload_n 1, 1) := by decide +kernel
theorem e31_50 : decode prog_11_method_2_code 50 = .ok (.aload_n 0, 1) := by decide +kernel
theorem e31_51 : decode prog_11_method_2_code 51 = .ok (.iload_n 1, 1) := by decide +kernel
theorem e31_52 : decode prog_11_method_2_code 52 = .ok (.iload_n 2, 1) := by decide +kernel
theorem e31_53 : decode prog_11_method_2_code 53 = .ok (.invokevirtual 31, 3) := by decide +kernel
theorem e31_56 : decode prog_11_method_2_code 56 = .ok (.invokevirtual 34, 3) := by decide +kernel
theorem e31_59 : decode prog_11_method_2_code 59 = .ok (.areturn, 1) := by decide +kernel
theorem e32_0 : decode method_5_code 0 = .ok (.iload 4, 2) := by decide +kernel
theorem e32_2 : decode method_5_code 2 = .ok (.iload_n 3, 1) := by decide +kernel
theorem e32_3 : decode method_5_code 3 = .ok (.if_icmp .ge 18, 3) := by decide +kernel
theorem e32_6 : decode method_5_code 6 = .ok (.aload_n 0, 1) := by decide +kernel
theorem e32_7 : decode method_5_code 7 = .ok (.iload 4, 2) := by decide +kernel
theorem e32_9 : decode method_5_code 9 = .ok (.invokevirtual 45, 3) := by decide +kernel
theorem e32_12 : decode method_5_code 12 = .ok (.aload_n 1, 1) := by decide +kernel
theorem e32_13 : decode method_5_code 13 = .ok (.iload_n 2, 1) := by decide +kernel
theorem e32_14 : decode method_5_code 14 = .ok (.iload 4, 2) := by decide +kernel
theorem e32_16 : decode method_5_code 16 = .ok (.iadd, 1) := by decide +kernel
theorem e32_17 : decode method_5_code 17 = .ok (.caload, 1) := by decide +kernel
theorem e32_18 : decode method_5_code 18 = .ok (.if_icmp .ne 7, 3) := by decide +kernel
theorem e32_21 : decode method_5_code 21 = .ok (.iconst 1, 1) := by decide +kernel
theorem e32_22 : decode method_5_code 22 = .ok (.goto 4, 3) := by decide +kernel
theorem e32_26 : decode method_5_code 26 = .ok (.ireturn, 1) := by decide +kernel
theorem e33_0 : decode prog_11_method_1_code 0 = .ok (.aload_n 0, 1) := by decide +kernel
theorem e33_1 : decode prog_11_method_1_code 1 = .ok (.invokespecial 1, 3) := by decide +kernel
theorem e34_0 : decode jdk_30_method_1_code 0 = .ok (.aload_n 0, 1) := by decide +kernel
theorem e34_1 : decode jdk_30_method_1_code 1 = .ok (.invokespecial 1, 3) := by decide +kernel
theorem e34_4 : decode jdk_30_method_1_code 4 = .ok (.return_, 1) := by decide +kernel
theorem e33_4 : decode prog_11_method_1_code 4 = .ok (.aload_n 0, 1) := by decide +kernel
theorem e33_5 : decode prog_11_method_1_code 5 = .ok (.iload_n 1, 1) := by decide +kernel
theorem e33_6 : decode prog_11_method_1_code 6 = .ok (.putfield 7, 3) := by decide +kernel
theorem e33_9 : decode prog_11_method_1_code 9 = .ok (.aload_n 0, 1) := by decide +kernel
theorem e33_10 : decode prog_11_method_1_code 10 = .ok (.aload_n 2, 1) := by decide +kernel
theorem e33_11 : decode prog_11_method_1_code 11 = .ok (.putfield 13, 3) := by decide +kernel
theorem e33_14 : decode prog_11_method_1_code 14 = .ok (.return_, 1) := by decide +kernel
theorem pd0 : parseMethodDescriptor "([CI[BII)I" = some ⟨[(.array .char), .int, (.array .byte), .int, .int], (some .int)⟩ := by decide +kernel
theorem pd1 : parseMethodDescriptor "([CII)[B" = some ⟨[(.array .char), .int, .int], (some (.array .byte))⟩ := by decide +kernel
theorem pd2 : parseMethodDescriptor "([BI)B" = some ⟨[(.array .byte), .int], (some .byte)⟩ := by decide +kernel
theorem pd3 : parseMethodDescriptor "([CIILjava/lang/Void;)V" = some ⟨[(.array .char), .int, .int, (.object "java/lang/Void")], none⟩ := by decide +kernel
theorem pd4 : parseMethodDescriptor "()B" = some ⟨[], (some .byte)⟩ := by decide +kernel
theorem pd5 : parseMethodDescriptor "(IILjava/util/function/BiFunction;)I" = some ⟨[.int, .int, (.object "java/util/function/BiFunction")], (some .int)⟩ := by decide +kernel
theorem pd6 : parseMethodDescriptor "(II)V" = some ⟨[.int, .int], none⟩ := by decide +kernel
theorem pd7 : parseMethodDescriptor "()Z" = some ⟨[], (some .boolean)⟩ := by decide +kernel
theorem pd8 : parseMethodDescriptor "([BI)C" = some ⟨[(.array .byte), .int], (some .char)⟩ := by decide +kernel
theorem pd9 : parseMethodDescriptor "(II)I" = some ⟨[.int, .int], (some .int)⟩ := by decide +kernel
theorem pd10 : parseMethodDescriptor "([BII)[B" = some ⟨[(.array .byte), .int, .int], (some (.array .byte))⟩ := by decide +kernel
theorem pd11 : parseMethodDescriptor "([BB)V" = some ⟨[(.array .byte), .byte], none⟩ := by decide +kernel
theorem pd12 : parseMethodDescriptor "()I" = some ⟨[], (some .int)⟩ := by decide +kernel
theorem pd13 : parseMethodDescriptor "(IIILjava/util/function/BiFunction;)I" = some ⟨[.int, .int, .int, (.object "java/util/function/BiFunction")], (some .int)⟩ := by decide +kernel
theorem pd14 : parseMethodDescriptor "(III)V" = some ⟨[.int, .int, .int], none⟩ := by decide +kernel
theorem pd15 : parseMethodDescriptor "([BII)Ljava/lang/String;" = some ⟨[(.array .byte), .int, .int], (some (.object "java/lang/String"))⟩ := by decide +kernel
theorem pd16 : parseMethodDescriptor "(IIIJJ)C" = some ⟨[.int, .int, .int, .long, .long], (some .char)⟩ := by decide +kernel
theorem pd17 : parseMethodDescriptor "(I)C" = some ⟨[.int], (some .char)⟩ := by decide +kernel
theorem pd18 : parseMethodDescriptor "(I)Z" = some ⟨[.int], (some .boolean)⟩ := by decide +kernel
theorem pd19 : parseMethodDescriptor "([BIII)I" = some ⟨[(.array .byte), .int, .int, .int], (some .int)⟩ := by decide +kernel
theorem pd20 : parseMethodDescriptor "(I)I" = some ⟨[.int], (some .int)⟩ := by decide +kernel
theorem pd21 : parseMethodDescriptor "(II)Ljava/lang/String;" = some ⟨[.int, .int], (some (.object "java/lang/String"))⟩ := by decide +kernel
theorem pd22 : parseMethodDescriptor "(IIIIICJJ)C" = some ⟨[.int, .int, .int, .int, .int, .char, .long, .long], (some .char)⟩ := by decide +kernel
theorem pd23 : parseMethodDescriptor "([C)V" = some ⟨[(.array .char)], none⟩ := by decide +kernel
theorem pd24 : parseMethodDescriptor "()V" = some ⟨[], none⟩ := by decide +kernel
theorem pd25 : parseMethodDescriptor "(ILjava/lang/String;)V" = some ⟨[.int, (.object "java/lang/String")], none⟩ := by decide +kernel
theorem pd26 : parseMethodDescriptor "()Ljava/lang/String;" = some ⟨[], (some (.object "java/lang/String"))⟩ := by decide +kernel
theorem pd27 : parseMethodDescriptor "(Ljava/lang/String;[CIII)Z" = some ⟨[(.object "java/lang/String"), (.array .char), .int, .int, .int], (some .boolean)⟩ := by decide +kernel
theorem pn0 : plainName "java/lang/StringUTF16" = true := by first | (simp [plainName, overriddenIn]; done) | decide +kernel
theorem pn1 : plainName "java/lang/String" = true := by first | (simp [plainName, overriddenIn]; done) | decide +kernel
theorem pn2 : plainName "java/lang/StringLatin1" = true := by first | (simp [plainName, overriddenIn]; done) | decide +kernel
theorem pn3 : plainName "jdk/internal/util/Preconditions" = true := by first | (simp [plainName, overriddenIn]; done) | decide +kernel
theorem pn4 : plainName "java/util/Arrays" = true := by first | (simp [plainName, overriddenIn]; done) | decide +kernel
theorem pn5 : plainName "com/example/elsewhere/elsewhere/SubfieldCleanValuePinLaw" = true := by first | (simp [plainName, overriddenIn]; done) | decide +kernel
theorem pn6 : plainName "com/example/elsewhere/elsewhere/Field$Subfield" = true := by first | (simp [plainName, overriddenIn]; done) | decide +kernel
theorem pn7 : plainName "java/lang/Record" = true := by first | (simp [plainName, overriddenIn]; done) | decide +kernel

theorem hEW {a0 : Array Value} {Z : State} (hw : Hw a0 Z) : EW Z a0 EL1 := EW.cons (w167 hw) (by decide) (EW.cons (w102 hw) (by decide) (EW.nil))
theorem hSA {a0 : Array Value} {Z : State} (hw : Hw a0 Z) : ∀ w ∈ Bundle.stringAtoms, w.before a0 Z = true := by
  intro w hq
  simp only [Bundle.stringAtoms, List.mem_cons, List.not_mem_nil, or_false] at hq
  rcases hq with rfl | rfl | rfl | rfl | rfl | rfl | rfl
  · exact (w17 hw)
  · exact (w16 hw)
  · exact (w33 hw)
  · exact (w43 hw)
  · exact (w41 hw)
  · exact (w103 hw)
  · exact (w104 hw)
def sepP (x : Int32) : Prop := x = 59 ∨ x = 44 ∨ x = 58
def PosP (p a k b s : Nat) (sep y : Int32) : Prop := (¬ y < (0 : Int32) ∧ ¬ (255 : Int32) < y) ∧ (p < a → y = 32) ∧ (a ≤ p → p < a + k → (p = a → y ≠ 32) ∧ (p + 1 = a + k → y ≠ 32 ∧ (s = 0 → ¬ sepP y))) ∧ (a + k ≤ p → p < a + k + b → y = 32) ∧ (a + k + b ≤ p → p < a + k + b + s → y = sep) ∧ (a + k + b + s ≤ p → y = 32)
def EbsP (cs : List Int32) (S E B : Nat) : Prop := S ≤ B ∧ B ≤ E ∧ (∀ j, B ≤ j → j < E → cs[j]? = some 32) ∧ (S < B → cs[B - 1]? ≠ some 32)
def EspP (cs : List Int32) (S E B : Nat) : Prop := (∃ x, S < E ∧ cs[E - 1]? = some x ∧ sepP x ∧ EbsP cs S (E - 1) B) ∨ ((E ≤ S ∨ ∃ x, cs[E - 1]? = some x ∧ ¬ sepP x) ∧ B = E)
def ClnP (cs : List Int32) (A B : Nat) : Prop := A ≤ cs.length ∧ (∀ j, j < A → cs[j]? = some 32) ∧ (A < cs.length → cs[A]? ≠ some 32) ∧ ∃ E, EbsP cs A cs.length E ∧ EspP cs A E B
theorem EspP.rng {cs : List Int32} {S E B : Nat} (h : EspP cs S E B) (q : S ≤ E) : S ≤ B ∧ B ≤ E := by
  rcases h with ⟨x, h1, _, _, h2⟩ | ⟨_, h2⟩
  · have := h2.1; have := h2.2.1; omega
  · omega
theorem sep32 {x : Int32} (h : sepP x) : x ≠ 32 := by rcases h with rfl | rfl | rfl <;> decide
theorem plain {cs : List Int32} {a k b s A B : Nat} {sep : Int32} (hl : cs.length = 8) (hs : s ≤ 1) (hsum : a + k + b + s ≤ 8) (hsep : sepP sep) (hp : ∀ p, p < 8 → ∃ y, cs[p]? = some y ∧ PosP p a k b s sep y) (C : ClnP cs A B) : Ow.sl cs A (B - A) = Ow.sl cs a k := by
  obtain ⟨c1, c2, c3, E, c4, c5⟩ := C
  have hv : ∀ p z, p < 8 → cs[p]? = some z → PosP p a k b s sep z := fun p z q e => by
    obtain ⟨y, e', h⟩ := hp p q
    rw [e] at e'; cases e'; exact h
  have h32 : ∀ p, p < 8 → p < a ∨ (a + k ≤ p ∧ p < a + k + b) ∨ a + k + b + s ≤ p → cs[p]? = some 32 := fun p q r => by
    obtain ⟨y, e, _, h1, _, h2, _, h3⟩ := hp p q
    rcases r with r | r | r
    · rw [e, h1 r]
    · rw [e, h2 r.1 r.2]
    · rw [e, h3 r]
  have hS : s = 1 → cs[a + k + b]? = some sep := fun r => by
    obtain ⟨y, e, _, _, _, _, h2, _⟩ := hp (a + k + b) (by omega)
    rw [e, h2 (Nat.le_refl _) (by omega)]
  have hS' : s = 1 → cs[a + k + b]? ≠ some 32 := fun r q => sep32 hsep (Option.some.inj ((hS r).symm.trans q))
  have h0 : 0 < k → cs[a]? ≠ some 32 := fun r q => ((hv a 32 (by omega) q).2.2.1 (Nat.le_refl _) (by omega)).1 rfl rfl
  have h1 : 0 < k → cs[a + k - 1]? ≠ some 32 := fun r q => (((hv (a + k - 1) 32 (by omega) q).2.2.1 (by omega) (by omega)).2 (by omega)).1 rfl
  have h2 : 0 < k → s = 0 → ∀ x, cs[a + k - 1]? = some x → ¬ sepP x := fun r t x q => (((hv (a + k - 1) x (by omega) q).2.2.1 (by omega) (by omega)).2 (by omega)).2 t
  obtain ⟨d1, d2, d3, d4⟩ := c4
  rw [hl] at c1 c3 d2 d3
  have hA1 : A < 8 → ¬ (A < a ∨ (a + k ≤ A ∧ A < a + k + b) ∨ a + k + b + s ≤ A) := fun q r => c3 q (h32 A q r)
  have hE1 : A < E → ¬ (E - 1 < a ∨ (a + k ≤ E - 1 ∧ E - 1 < a + k + b) ∨ a + k + b + s ≤ E - 1) := fun q r => d4 q (h32 (E - 1) (by omega) r)
  have hE2 : s = 1 → ¬ (E ≤ a + k + b ∧ a + k + b < 8) := fun q r => hS' q (d3 _ r.1 r.2)
  have hA2 : s = 1 → ¬ (a + k + b < A) := fun q r => hS' q (c2 _ r)
  by_cases hk : 0 < k
  · have hA3 : ¬ (a < A) := fun q => h0 hk (c2 _ q)
    have hE3 : ¬ (E ≤ a + k - 1) := fun q => h1 hk (d3 _ q (by omega))
    have eA : A = a := by omega
    subst eA
    have eB : B = A + k := by
      rcases c5 with ⟨x, g1, g2, g3, g4, g5, g6, g7⟩ | ⟨g1, g2⟩
      · have hs1 : s = 1 := by
          rcases Nat.lt_or_ge 0 s with t | t
          · omega
          · have : E = A + k := by omega
            subst this
            exact absurd g3 (h2 hk (by omega) x g2)
        have eE : E = A + k + b + 1 := by omega
        subst eE
        have t1 : ¬ (B ≤ A + k - 1) := fun q => h1 hk (g6 _ q (by omega))
        have t2 : ¬ (A + k < B) := fun q => g7 (by omega) (h32 (B - 1) (by omega) (Or.inr (Or.inl (by omega))))
        omega
      · rcases g1 with g1 | ⟨x, g1, g3⟩
        · omega
        · rcases Nat.lt_or_ge 0 s with t | t
          · have eE : E = A + k + b + 1 := by omega
            subst eE
            rw [show A + k + b + 1 - 1 = A + k + b from rfl, hS (by omega)] at g1
            cases g1
            exact absurd hsep g3
          · omega
    rw [eB, show A + k - A = k from by omega]
  · have e0 : k = 0 := by omega
    subst e0
    have eB : B - A = 0 := by
      rcases c5 with ⟨x, g1, g2, g3, g4, g5, g6, g7⟩ | ⟨g1, g2⟩
      · omega
      · rcases g1 with g1 | ⟨x, g1, g3⟩
        · omega
        · rcases Nat.lt_or_ge 0 s with t | t
          · by_cases q : E = a + 0 + b + 1
            · subst q
              rw [show a + 0 + b + 1 - 1 = a + 0 + b from rfl, hS (by omega)] at g1
              cases g1
              exact absurd hsep g3
            · omega
          · omega
    rw [eB]; simp
theorem own_i0 {x : Int32} (h : ¬ x < (0 : Int32)) : 0 ≤ x.toInt := by
  simp only [Int32.lt_iff_toInt_lt, Int32.reduceToInt] at h; omega
theorem own_i1 {x : Int32} (h : ¬ (65535 : Int32) < x) : x.toInt ≤ 65535 := by
  simp only [Int32.lt_iff_toInt_lt, Int32.reduceToInt] at h; omega
theorem own_sub {x y d : Int32} (hd : x - y = d) (hx : 0 ≤ x.toInt ∧ x.toInt ≤ 65535) (hy : 0 ≤ y.toInt ∧ y.toInt ≤ 65535) : d.toInt = x.toInt - y.toInt := by
  have h1 := c_isub x y
  have h2 := rng32 (x - y)
  rw [hd] at h1 h2
  omega
theorem own_or32n (n : Nat) : n ||| 32 = if n / 32 % 2 = 1 then n else n + 32 := by
  have q : n = (n / 32) <<< 5 + n % 32 := by rw [Nat.shiftLeft_eq]; omega
  have q2 : n = (n / 32) <<< 5 ||| n % 32 := by rw [← Nat.shiftLeft_add_eq_or_of_lt (by omega : n % 32 < 2 ^ 5)]; exact q
  have q3 : (n / 32) ||| 1 = if n / 32 % 2 = 1 then n / 32 else n / 32 + 1 := by
    generalize n / 32 = k
    have h1 : k = (k / 2) <<< 1 ||| k % 2 := by rw [← Nat.shiftLeft_add_eq_or_of_lt (by omega : k % 2 < 2 ^ 1), Nat.shiftLeft_eq]; omega
    have h2 : k ||| 1 = (k / 2) <<< 1 ||| 1 := by
      conv => lhs; rw [h1]
      rw [Nat.or_assoc]
      have : k % 2 = 0 ∨ k % 2 = 1 := by omega
      rcases this with t | t <;> rw [t] <;> rfl
    rw [h2, ← Nat.shiftLeft_add_eq_or_of_lt (by omega : 1 < 2 ^ 1), Nat.shiftLeft_eq]
    split <;> omega
  have q4 : n ||| 32 = ((n / 32) ||| 1) <<< 5 ||| n % 32 := by
    conv => lhs; rw [q2]
    rw [Nat.or_assoc, Nat.or_comm (n % 32) 32, ← Nat.or_assoc, show (32 : Nat) = 1 <<< 5 from rfl, ← Nat.shiftLeft_or_distrib]
  rw [q4, q3, ← Nat.shiftLeft_add_eq_or_of_lt (by omega : n % 32 < 2 ^ 5), Nat.shiftLeft_eq]
  split <;> omega
theorem own_or32 {x z : Int32} (hz : x ||| 32 = z) (h0 : 0 ≤ x.toInt) (h1 : x.toInt ≤ 65535) : (x.toInt / 32 % 2 = 1 ∧ z.toInt = x.toInt) ∨ (x.toInt / 32 % 2 = 0 ∧ z.toInt = x.toInt + 32) := by
  subst hz
  have hn := Ow.toNat_rng (n := 65535) h0 h1 (by decide)
  have e1 : (x ||| 32).toBitVec.toNat = x.toBitVec.toNat ||| 32 := by simp
  have e2 := Ow.toInt_small (x := x) hn (by decide)
  have e3 := own_or32n x.toBitVec.toNat
  have hle : (x ||| 32).toBitVec.toNat ≤ 131071 := by rw [e1, e3]; split <;> omega
  rw [Ow.toInt_small hle (by decide), e1, e3, e2]
  split <;> omega
theorem own_i8 {x : Int32} (h0 : ¬ x < (0 : Int32)) (h1 : ¬ (255 : Int32) < x) : (x.toInt < 128 ∧ x.toInt8.toInt32.toInt = x.toInt) ∨ (128 ≤ x.toInt ∧ x.toInt8.toInt32.toInt = x.toInt - 256) := by
  have := Ow.all256 (fun x => decide ((x.toInt < 128 ∧ x.toInt8.toInt32.toInt = x.toInt) ∨ (128 ≤ x.toInt ∧ x.toInt8.toInt32.toInt = x.toInt - 256))) (by decide +kernel) h0 h1
  exact of_decide_eq_true this
theorem own_i255 {x : Int32} (h : ¬ (255 : Int32) < x) : x.toInt ≤ 255 := by
  simp only [Int32.lt_iff_toInt_lt, Int32.reduceToInt] at h; omega
theorem own_c255 (x : Int32) : ¬ (x &&& 255) < (0 : Int32) ∧ ¬ (255 : Int32) < (x &&& 255) := by
  have := Ow.and255 x
  constructor <;> simp only [Int32.lt_iff_toInt_lt, Int32.reduceToInt] <;> omega
theorem own_sepr {x : Int32} (h : sepP x) : ¬ x < (0 : Int32) ∧ ¬ (255 : Int32) < x := by rcases h with rfl | rfl | rfl <;> decide

variable {l : Launch} {Z : State} {n0 : Nat} {a0 : Array Value} {cz : Int32} {sf : Value}
set_option maxRecDepth 65536 in
set_option maxHeartbeats 40000000 in
theorem gcC (hw : Hw a0 Z) (G : Ow.Glo Z cz sf) {h0 : Heap} (O0 : Old Z n0 h0) {a d : Nat} {ka kd : ClassId} {cs : List Int32} (A : Arv Z h0 a ka .char (Int32.ofNat cs.length) (Ow.CA cs) (.int 0)) (D : Arv Z h0 d kd .byte (Int32.ofNat cs.length) [] (.int 0)) (hd : n0 ≤ d) (hne : a ≠ d) (hN : cs.length ≤ 64) :
    Ow.Con l Z EL1 n0 my0 jdk_52_method_21_code 7 (Option.some Jvm.ClassFile.FieldType.int) [] ({ frames := 0, cells := 0, slots := 0, locals := 0 } : Room) #[(.ref a), (.int 0), (.ref d), (.int 0), (.int (Int32.ofNat cs.length))] [d] h0 (fun v h S' => (v = some (.int (Int32.ofNat cs.length)) ∧ Keep h0 h [d] ∧ Ow.Lat cs ∧ Arv Z h d kd .byte (Int32.ofNat cs.length) (Ow.LB cs) (.int 0) ∧ S' = []) ∨ (∃ j : Nat, ∃ x : Int32, v = some (.int (Int32.ofNat j)) ∧ Keep h0 h [d] ∧ cs[j]? = some x ∧ (255 : Int32) < x ∧ S' = [])) := by
 refine Ow.Con.enter (Ls := #[.val (.ref a), .val (.int 0), .val (.ref d), .val (.int 0), .val (.int (Int32.ofNat cs.length)), .unset, .unset]) (plainFor_of_name pn0) O0 (hEW hw) (hSA hw) ?_
 intro p e s m below meth c B
 have z0 := Ow.old_le O0
 refine Ow.iconst (pc' := 1) (x := 0) B e0_0 ?_
 refine Ow.istore (pc' := 3) (Ls' := #[.val (.ref a), .val (.int (Int32.ofNat 0)), .val (.ref d), .val (.int (Int32.ofNat 0)), .val (.int (Int32.ofNat cs.length)), .val (.int (Int32.ofNat 0)), .unset]) B e0_1 ?_
 refine Ow.Go.loop (fun i (x : Nat × Slot) h => x.1 + i = cs.length ∧ Keep h0 h [d] ∧ Arv Z h d kd .byte (Int32.ofNat cs.length) ((Ow.LB cs).take x.1) (.int 0) ∧ (∀ y ∈ cs.take x.1, ¬ (255 : Int32) < y) ∧ Ow.UI x.2) (fun x => #[.val (.ref a), .val (.int (Int32.ofNat x.1)), .val (.ref d), .val (.int (Int32.ofNat x.1)), .val (.int (Int32.ofNat cs.length)), .val (.int (Int32.ofNat x.1)), x.2]) ?_ cs.length (0, .unset) ⟨by omega, Keep.refl _ _, D.pad (fun i => by simp), by simp, Or.inl rfl⟩
 intro i ⟨j, u⟩ h ⟨hj, K, D1, hl, hu⟩ ih
 dsimp only at hj D1 hl hu ⊢
 have zK := K.1
 refine Ow.iload (pc' := 5) B e0_3 (Ow.iload (pc' := 7) B e0_5 ?_)
 by_cases c1 : j < cs.length
 ·obtain ⟨x, hx⟩ : ∃ x, cs[j]? = some x := ⟨_, List.getElem?_eq_getElem c1⟩
  refine Ow.icmpF (pc' := 10) B e0_7 (tlt (Ow.nlT c1)).2.1 ?_
  refine Ow.aloadN (pc' := 11) B e0_10 (Ow.iloadN (pc' := 12) B e0_11 ?_)
  refine Ow.caload (pc' := 13) (v := .int x) B e0_12 (A.keep K (Ow.ninS hne Ow.nin0)) ⟨Ow.nn, Ow.nlT c1⟩ (by rw [Ow.nc]; exact Ow.gD (Ow.CAa hx)) ?_
  refine Ow.istore (pc' := 15) (Ls' := #[.val (.ref a), .val (.int (Int32.ofNat j)), .val (.ref d), .val (.int (Int32.ofNat j)), .val (.int (Int32.ofNat cs.length)), .val (.int (Int32.ofNat j)), .val (.int x)]) (hl := by rcases hu with rfl | ⟨y, rfl⟩ <;> rfl) B e0_13 (Ow.iload (pc' := 17) B e0_15 (Ow.sipush (pc' := 20) (x := 255) B e0_17 ?_))
  by_cases c2 : (255 : Int32) < x
  ·refine Ow.icmpF (pc' := 23) B e0_20 (tlt c2).2.2.2 (Ow.iload (pc' := 25) B e0_23 ?_)
   exact Ow.retI (S' := []) (t := .int) B e0_25 (Or.inr ⟨j, x, rfl, K, hx, c2, rfl⟩)
  ·refine Ow.icmpT (pc' := 26) B e0_20 (flt c2).2.2.2 ?_
   refine Ow.aloadN (pc' := 27) B e0_26 (Ow.iloadN (pc' := 28) B e0_27 (Ow.iload (pc' := 30) B e0_28 (Ow.i2b (pc' := 31) (z := x.toInt8.toInt32) B e0_30 ?_)))
   refine Ow.bastore (pc' := 32) (i := j) B e0_31 (D1.pad (Ow.pad1 _ _)) ⟨Ow.nn, Ow.nlT c1⟩ (by simp) ?_ (hlt := by simp; omega) (hi := Ow.nc)
   intro h' K' D2
   rw [Ow.nar_b, Ow.tk (Ow.LBa hx)] at D2
   refine Ow.iinc (pc' := 35) (y := Int32.ofNat (j + 1)) (hy := (Ow.nS j).symm) (Ls' := #[.val (.ref a), .val (.int (Int32.ofNat (j + 1))), .val (.ref d), .val (.int (Int32.ofNat j)), .val (.int (Int32.ofNat cs.length)), .val (.int (Int32.ofNat j)), .val (.int x)]) B e0_32 ?_
   refine Ow.iinc (pc' := 38) (y := Int32.ofNat (j + 1)) (hy := (Ow.nS j).symm) (Ls' := #[.val (.ref a), .val (.int (Int32.ofNat (j + 1))), .val (.ref d), .val (.int (Int32.ofNat (j + 1))), .val (.int (Int32.ofNat cs.length)), .val (.int (Int32.ofNat j)), .val (.int x)]) B e0_35 ?_
   refine Ow.iinc (pc' := 41) (y := Int32.ofNat (j + 1)) (hy := (Ow.nS j).symm) (Ls' := #[.val (.ref a), .val (.int (Int32.ofNat (j + 1))), .val (.ref d), .val (.int (Int32.ofNat (j + 1))), .val (.int (Int32.ofNat cs.length)), .val (.int (Int32.ofNat (j + 1))), .val (.int x)]) B e0_38 ?_
   refine Ow.goto (pc' := 3) B e0_41 ?_
   exact ih (i - 1) (j + 1, .val (.int x)) h' (by omega) ⟨by show j + 1 + (i - 1) = _; omega, K.trans K' (allS (Or.inl (by simp)) all0), D2, Ow.take1 hx hl c2, Or.inr ⟨_, rfl⟩⟩
 ·have e : j = cs.length := by omega
  refine Ow.icmpT (pc' := 44) B e0_7 (flt (Ow.nlF c1)).2.1 (Ow.iload (pc' := 46) B e0_44 ?_)
  rw [e, Ow.takeN (by simp)] at D1
  rw [e, Ow.takeN (Nat.le_refl _)] at hl
  exact Ow.retI (S' := []) (t := .int) B e0_46 (Or.inl ⟨rfl, K, hl, D1, rfl⟩)
set_option maxRecDepth 65536 in
set_option maxHeartbeats 40000000 in
theorem gCC (hw : Hw a0 Z) (G : Ow.Glo Z cz sf) {h0 : Heap} (O0 : Old Z n0 h0) {a : Nat} {ka : ClassId} {cs : List Int32} (A : Arv Z h0 a ka .char (Int32.ofNat cs.length) (Ow.CA cs) (.int 0)) (hR : Ow.Rng cs) (hL : Ow.Lat cs) (hC : cs.length ≤ 8) (hN : cs.length ≤ 64) :
    Ow.Con l Z EL1 n0 my1 jdk_52_method_16_code 6 (Option.some (Jvm.ClassFile.FieldType.array Jvm.ClassFile.FieldType.byte)) [] ({ frames := 1, cells := 1, slots := 8, locals := 18 } : Room) #[(.ref a), (.int 0), (.int (Int32.ofNat cs.length))] [] h0 (fun v h S' => ∃ r : Nat, ∃ kr : ClassId, v = some (.ref r) ∧ Keep h0 h [] ∧ h0.size ≤ r ∧ Ow.Lat cs ∧ Arv Z h r kr .byte (Int32.ofNat cs.length) (Ow.LB cs) (.int 0) ∧ S' = [r]) := by
 refine Ow.Con.enter (Ls := #[.val (.ref a), .val (.int 0), .val (.int (Int32.ofNat cs.length)), .unset, .unset, .unset]) (plainFor_of_name pn0) O0 (hEW hw) (hSA hw) ?_
 intro p e s m below meth c B
 have z0 := Ow.old_le O0
 have la : (a : Nat) < h0.size := A.lt
 refine Ow.iloadN (pc' := 1) B e1_0 ?_
 refine Ow.newArr (pc' := 3) (k' := 1) (n' := 8) (cap := 8) B e1_1 (w33 hw) Ow.nn (by rw [Ow.nc]; omega) ?_
 intro h2 a1 ka1 ga1 ba1 Kh2 V0a1
 have zh2 := Kh2.1
 have la1 : (a1 : Nat) < h2.size := V0a1.lt
 refine Ow.astoreN (pc' := 4) (Ls' := #[.val (.ref a), .val (.int 0), .val (.int (Int32.ofNat cs.length)), .val (.ref a1), .unset, .unset]) B e1_3 ?_
 refine Ow.aloadN (pc' := 5) B e1_4 ?_
 refine Ow.iloadN (pc' := 6) B e1_5 ?_
 refine Ow.aloadN (pc' := 7) B e1_6 ?_
 refine Ow.iconst (pc' := 8) (x := 0) B e1_7 ?_
 refine Ow.iloadN (pc' := 9) B e1_8 ?_
 have f3 := A.keep Kh2 Ow.nin0
 refine Ow.Go.old (fun o4 => ?_)
 refine Ow.callStatic (pc' := 12) (W := 0) (k' := 1) (n' := 8) (argsL := [(.ref a), (.int 0), (.ref a1), (.int 0), (.int (Int32.ofNat cs.length))]) (rest := []) B e1_9 (w34 hw) (w35 hw) (w31 hw) (w36 hw) (gcC hw G o4 f3 V0a1 (by omega) (by omega) hN) pd0 ?_
 intro vq5 h6 S7 q5 zh6
 rcases q5 with q5 | q5
 ·obtain ⟨rfl, Kh6, l9, f8, rfl⟩ := q5
  refine Ow.Go.nr (S' := [a1]) (st' := [(.int (Int32.ofNat cs.length))]) ?_
  refine Ow.istore (pc' := 14) (Ls' := #[.val (.ref a), .val (.int 0), .val (.int (Int32.ofNat cs.length)), .val (.ref a1), .val (.int (Int32.ofNat cs.length)), .unset]) B e1_12 ?_
  refine Ow.iload (pc' := 16) B e1_14 ?_
  refine Ow.iloadN (pc' := 17) B e1_16 ?_
  refine Ow.icmpT (pc' := 57) B e1_17 (teq (rfl)).1 ?_
  refine Ow.aloadN (pc' := 58) B e1_57 ?_
  exact Ow.retA (S' := [a1]) (t := (.array .byte)) B e1_58 (⟨a1, ka1, rfl, (((Keep.refl _ []).trans Kh2 (fun _ q => nomatch q)).trans Kh6 (allS (Or.inr (by omega)) all0)), (by omega), l9, f8, rfl⟩)
 ·obtain ⟨j10, x11, rfl, Kh6, e12, c13, rfl⟩ := q5
  exact absurd c13 (hL x11 (List.mem_of_getElem? e12))
set_option maxRecDepth 65536 in
set_option maxHeartbeats 40000000 in
theorem gCal0 (hw : Hw a0 Z) (G : Ow.Glo Z cz sf) {h0 : Heap} (O0 : Old Z n0 h0) {t n : Nat} {kt : ClassId} {vs : List Value} (D : Arv Z h0 t kt .byte (Int32.ofNat n) vs (.int 0)) (hN : n ≤ 64) :
    Ow.Con l Z EL1 n0 my2 jdk_52_method_15_code 2 (Option.some Jvm.ClassFile.FieldType.byte) [] ({ frames := 0, cells := 0, slots := 0, locals := 0 } : Room) #[(.ref t), (.int (Int32.ofNat n))] [] h0 (fun v h S' => v = some (.int 0) ∧ h = h0 ∧ S' = []) := by
 refine Ow.Con.enter (Ls := #[.val (.ref t), .val (.int (Int32.ofNat n))]) (plainFor_of_name pn0) O0 (hEW hw) (hSA hw) ?_
 intro p e s m below meth c B
 have z0 := Ow.old_le O0
 refine Ow.iloadN (pc' := 1) B e2_0 ?_
 refine Ow.aloadN (pc' := 2) B e2_1 ?_
 refine Ow.arrlen (pc' := 3) B e2_2 D ?_
 refine Ow.isub (pc' := 4) (z := ((Int32.ofNat n) - (Int32.ofNat n))) B e2_3 ?_
 refine Ow.bipush (pc' := 6) (x := 31) B e2_4 ?_
 refine Ow.iushr (pc' := 7) (z := 0) (hz := Ow.cal0) B e2_6 ?_
 refine Ow.i2b (pc' := 8) (z := 0) B e2_7 ?_
 exact Ow.retI (S' := []) (t := .byte) B e2_8 (⟨rfl, rfl, rfl⟩)
set_option maxRecDepth 65536 in
set_option maxHeartbeats 40000000 in
theorem gIni2 (hw : Hw a0 Z) (G : Ow.Glo Z cz sf) {h0 : Heap} (O0 : Old Z n0 h0) {a b : Nat} {ka : ClassId} {cs : List Int32} (A : Arv Z h0 a ka .char (Int32.ofNat cs.length) (Ow.CA cs) (.int 0)) (E : Exa Z h0 b "java/lang/String") (V : Fld Z h0 b "java/lang/String" "value" "[B" .null) (C : Fld Z h0 b "java/lang/String" "coder" "B" (.int 0)) (hb : n0 ≤ b) (hne : a ≠ b) (hR : Ow.Rng cs) (hL : Ow.Lat cs) (hC : cs.length ≤ 8) (hN : cs.length ≤ 64) (hpos : 0 < cs.length) :
    Ow.Con l Z EL1 n0 my3 jdk_42_method_149_code 6 (Option.none : Option Jvm.ClassFile.FieldType) [] ({ frames := 2, cells := 1, slots := 8, locals := 35 } : Room) #[(.ref b), (.ref a), (.int 0), (.int (Int32.ofNat cs.length)), .null] [b] h0 (fun v h S' => ∃ t : Nat, ∃ kt : ClassId, v = none ∧ Keep h0 h [b] ∧ h0.size ≤ t ∧ Ow.Chs Z h b t kt cs ∧ S' = []) := by
 refine Ow.Con.enter (Ls := #[.val (.ref b), .val (.ref a), .val (.int 0), .val (.int (Int32.ofNat cs.length)), .val .null, .unset]) (plainFor_of_name pn1) O0 (hEW hw) (hSA hw) ?_
 intro p e s m below meth c B
 have z0 := Ow.old_le O0
 have la : (a : Nat) < h0.size := A.lt
 have lb : (b : Nat) < h0.size := E.lt
 refine Ow.aloadN (pc' := 1) B e3_0 ?_
 refine Ow.objInit (pc' := 4) (W := 0) B e3_1 (w25 hw) (w26 hw) (w27 hw) ?_
 refine Ow.iloadN (pc' := 5) B e3_4 ?_
 by_cases c5 : (Int32.ofNat cs.length) = (0 : Int32)
 ·exact absurd (Ow.nz c5 (by omega)) (by omega)
 ·refine Ow.ifT (pc' := 27) B e3_5 (feq c5).2 ?_
  refine Ow.getstatic (pc' := 30) B e3_27 (w28 hw) Via.refl G.1 ?_
  refine Ow.ifF (pc' := 33) B e3_30 (feq (G.2.1)).1 ?_
  refine Ow.aloadN (pc' := 34) B e3_33 ?_
  refine Ow.iloadN (pc' := 35) B e3_34 ?_
  refine Ow.iloadN (pc' := 36) B e3_35 ?_
  refine Ow.Go.old (fun o1 => ?_)
  refine Ow.callStatic (pc' := 39) (W := 0) (k' := 1) (n' := 8) (argsL := [(.ref a), (.int 0), (.int (Int32.ofNat cs.length))]) (rest := []) B e3_36 (w29 hw) (w30 hw) (w31 hw) (w32 hw) (gCC hw G o1 A hR hL hC hN) pd1 ?_
  intro vq2 h3 S4 q2 zh3
  obtain ⟨r5, k6, rfl, Kh3, br5, l8, f7, rfl⟩ := q2
  have lr5 : (r5 : Nat) < h3.size := f7.lt
  refine Ow.Go.norm (S' := [r5, b]) (st' := [(.ref r5)]) (fun _ q => q) rfl ?_
  refine Ow.astore (pc' := 41) (Ls' := #[.val (.ref b), .val (.ref a), .val (.int 0), .val (.int (Int32.ofNat cs.length)), .val .null, .val (.ref r5)]) B e3_39 ?_
  refine Ow.aloadN (pc' := 42) B e3_41 ?_
  refine Ow.aload (pc' := 44) B e3_42 ?_
  refine Ow.iloadN (pc' := 45) B e3_44 ?_
  refine Ow.Go.old (fun o9 => ?_)
  refine Ow.callStatic (pc' := 48) (W := 1) (k' := 1) (n' := 8) (argsL := [(.ref r5), (.int (Int32.ofNat cs.length))]) (rest := [(.ref b)]) B e3_45 (w37 hw) (w38 hw) (w31 hw) (w39 hw) (gCal0 hw G (n := cs.length) o9 f7 (by omega)) pd2 ?_
  intro vq10 h11 S12 q10 zh11
  obtain ⟨rfl, rfl, rfl⟩ := q10
  refine Ow.Go.nr (S' := [r5, b]) (st' := [(.int 0), (.ref b)]) ?_
  have f13 := C.keep Kh3 Ow.nin0
  have f14 := E.keep Kh3
  refine Ow.putfield (pc' := 51) (ty := .byte) B e3_48 (w40 hw) Via.refl f13 f14 (Or.inr ⟨(w41 hw), rfl, rfl⟩) (w16 hw) (Or.inl (by simp)) ?_
  intro h15 Wh15
  have f16 := V.keep Kh3 Ow.nin0
  have Kh15 := Keep.of_wr Wh15
  have zh15 := Kh15.1
  have f17 : Fld Z h15 b "java/lang/String" "coder" "B" (.int 0) := f13.same Wh15
  have f18 : Fld Z h15 b "java/lang/String" "value" "[B" .null := f16.other Wh15 (Or.inr (slot_ne (a0 := a0) (C := "java/lang/String") (t := (.array .byte)) (t' := .byte) (Or.inr (w43 hw)) (Or.inr (w41 hw)) (by decide) (by decide) (by decide)))
  refine Ow.aloadN (pc' := 52) B e3_51 ?_
  refine Ow.aload (pc' := 54) B e3_52 ?_
  have f19 := f14.keep Kh15
  refine Ow.putfield (pc' := 57) (ty := (.array .byte)) B e3_54 (w42 hw) Via.refl f18 f19 (Or.inr ⟨(w43 hw), rfl, rfl⟩) (w16 hw) (Or.inl (by simp)) ?_
  intro h20 Wh20
  have Kh20 := Keep.of_wr Wh20
  have zh20 := Kh20.1
  have f21 : Fld Z h20 b "java/lang/String" "value" "[B" (.ref r5) := f18.same Wh20
  have f22 : Fld Z h20 b "java/lang/String" "coder" "B" (.int 0) := f17.other Wh20 (Or.inr (slot_ne (a0 := a0) (C := "java/lang/String") (t := .byte) (t' := (.array .byte)) (Or.inr (w41 hw)) (Or.inr (w43 hw)) (by decide) (by decide) (by decide)))
  have f23 := f19.keep Kh20
  have f24 := f7.keep Kh15 (Ow.ninS (by omega) Ow.nin0)
  have f25 := f24.keep Kh20 (Ow.ninS (by omega) Ow.nin0)
  exact Ow.retV (S' := []) B e3_57 (⟨r5, k6, rfl, ((((Keep.refl _ [b]).trans Kh3 (fun _ q => nomatch q)).trans Kh15 (allS (Or.inl (by simp)) all0)).trans Kh20 (allS (Or.inl (by simp)) all0)), (by omega), ⟨f23, f21, hR, Or.inl ⟨f22, f25, l8⟩⟩, rfl⟩)
set_option maxRecDepth 65536 in
set_option maxHeartbeats 40000000 in
theorem gIni (hw : Hw a0 Z) (G : Ow.Glo Z cz sf) {h0 : Heap} (O0 : Old Z n0 h0) {a b : Nat} {ka : ClassId} {cs : List Int32} (A : Arv Z h0 a ka .char (Int32.ofNat cs.length) (Ow.CA cs) (.int 0)) (E : Exa Z h0 b "java/lang/String") (V : Fld Z h0 b "java/lang/String" "value" "[B" .null) (C : Fld Z h0 b "java/lang/String" "coder" "B" (.int 0)) (hb : n0 ≤ b) (hne : a ≠ b) (hR : Ow.Rng cs) (hL : Ow.Lat cs) (hC : cs.length ≤ 8) (hN : cs.length ≤ 64) (hpos : 0 < cs.length) :
    Ow.Con l Z EL1 n0 my4 jdk_42_method_3_code 2 (Option.none : Option Jvm.ClassFile.FieldType) [] ({ frames := 3, cells := 1, slots := 8, locals := 52 } : Room) #[(.ref b), (.ref a)] [b] h0 (fun v h S' => ∃ t : Nat, ∃ kt : ClassId, v = none ∧ Keep h0 h [b] ∧ h0.size ≤ t ∧ Ow.Chs Z h b t kt cs ∧ S' = []) := by
 refine Ow.Con.enter (Ls := #[.val (.ref b), .val (.ref a)]) (plainFor_of_name pn1) O0 (hEW hw) (hSA hw) ?_
 intro p e s m below meth c B
 have z0 := Ow.old_le O0
 have la : (a : Nat) < h0.size := A.lt
 have lb : (b : Nat) < h0.size := E.lt
 refine Ow.aloadN (pc' := 1) B e4_0 ?_
 refine Ow.aloadN (pc' := 2) B e4_1 ?_
 refine Ow.iconst (pc' := 3) (x := 0) B e4_2 ?_
 refine Ow.aloadN (pc' := 4) B e4_3 ?_
 refine Ow.arrlen (pc' := 5) B e4_4 A ?_
 refine Ow.aconstNull (pc' := 6) B e4_5 ?_
 refine Ow.Go.old (fun o1 => ?_)
 refine Ow.callInit (pc' := 9) (W := 0) (k' := 1) (n' := 8) (argsL := [(.ref a), (.int 0), (.int (Int32.ofNat cs.length)), .null]) (rest := []) B e4_6 (w21 hw) (w22 hw) (w17 hw) (w24 hw) (gIni2 hw G o1 A E V C (by omega) (by omega) hR hL hC hN hpos) pd3 ?_
 intro vq2 h3 S4 q2 zh3
 obtain ⟨t5, k6, rfl, Kh3, bt5, f7, rfl⟩ := q2
 refine Ow.Go.nr (S' := [b]) (st' := []) ?_
 exact Ow.retV (S' := []) B e4_9 (⟨t5, k6, rfl, ((Keep.refl _ [b]).trans Kh3 (allS (Or.inl (by simp)) all0)), (by omega), f7, rfl⟩)
set_option maxRecDepth 65536 in
set_option maxHeartbeats 40000000 in
theorem con_coder_1 (hw : Hw a0 Z) (G : Ow.Glo Z cz sf) {pa0 : Nat} {h0 : Heap} (O0 : Old Z n0 h0) (hf0 : Fld Z h0 pa0 "java/lang/String" "coder" "B" (.int 0)) :
    Ow.Con l Z EL1 n0 my5 jdk_42_method_152_code 1 (Option.some Jvm.ClassFile.FieldType.byte) [] ({ frames := 0, cells := 0, slots := 0, locals := 0 } : Room) #[(.ref pa0)] [] h0 (fun v h S' => (v = some (.int 0) ∧ h = h0 ∧ S' = [])) := by
 refine Ow.Con.enter (Ls := #[.val (.ref pa0)]) (plainFor_of_name pn1) O0 (hEW hw) (hSA hw) ?_
 intro p e s m below meth c B
 have z0 := Ow.old_le O0
 have lpa0 : (pa0 : Nat) < h0.size := hf0.lt
 refine Ow.getstatic (pc' := 3) B e6_0 (w28 hw) Via.refl G.1 ?_
 refine Ow.ifF (pc' := 6) B e6_3 (feq (G.2.1)).1 ?_
 refine Ow.aloadN (pc' := 7) B e6_6 ?_
 refine Ow.getfield (pc' := 10) B e6_7 (w40 hw) Via.refl hf0 ?_
 refine Ow.goto (pc' := 14) B e6_10 ?_
 exact Ow.retI (S' := []) (t := .byte) B e6_14 (⟨rfl, rfl, rfl⟩)
set_option maxRecDepth 65536 in
set_option maxHeartbeats 40000000 in
theorem gLen (hw : Hw a0 Z) (G : Ow.Glo Z cz sf) {h0 : Heap} (O0 : Old Z n0 h0) {b t : Nat} {kt : ClassId} {cs : List Int32} (F : Ow.Chs Z h0 b t kt cs) (hN : cs.length ≤ 64) (hL : Ow.Lat cs) :
    Ow.Con l Z EL1 n0 my6 jdk_42_method_54_code 1 (Option.some Jvm.ClassFile.FieldType.int) [] ({ frames := 1, cells := 0, slots := 0, locals := 13 } : Room) #[(.ref b)] [] h0 (fun v h S' => v = some (.int (Int32.ofNat cs.length)) ∧ h = h0 ∧ S' = []) := by
 obtain ⟨oc, oa⟩ := F.lat hL
 refine Ow.Con.enter (Ls := #[.val (.ref b)]) (plainFor_of_name pn1) O0 (hEW hw) (hSA hw) ?_
 intro p e s m below meth c B
 have z0 := Ow.old_le O0
 refine Ow.aloadN (pc' := 1) B e5_0 ?_
 refine Ow.getfield (pc' := 4) B e5_1 (w42 hw) Via.refl F.2.1 ?_
 refine Ow.arrlen (pc' := 5) B e5_4 oa ?_
 refine Ow.aloadN (pc' := 6) B e5_5 ?_
 refine Ow.Go.old (fun o1 => ?_)
 refine Ow.callVirtual (pc' := 9) (W := 1) (k' := 0) (n' := 0) (argsL := []) (rest := [(.int (Int32.ofNat cs.length))]) (K := "java/lang/String") B e5_6 (w67 hw) (w68 hw) (w70 hw) (w70 hw) (w69 hw) (w17 hw) (w71 hw) F.1 (con_coder_1 hw G (pa0 := b) o1 oc) pd4 ?_
 intro vq2 h3 S4 q2 zh3
 obtain ⟨rfl, rfl, rfl⟩ := q2
 refine Ow.Go.nr (S' := []) (st' := [(.int 0), (.int (Int32.ofNat cs.length))]) ?_
 refine Ow.ishr (pc' := 10) (z := (Int32.ofNat cs.length)) (hz := (Ow.shr0 _)) B e5_9 ?_
 exact Ow.retI (S' := []) (t := .int) B e5_10 (⟨rfl, rfl, rfl⟩)
set_option maxRecDepth 65536 in
set_option maxHeartbeats 40000000 in
theorem con_checkIndex_2 (hw : Hw a0 Z) (G : Ow.Glo Z cz sf) {px0 : Int32} {px1 : Int32} {pv0 : Value} {h0 : Heap} (O0 : Old Z n0 h0) (hk0 : ¬ (px0 < (0 : Int32))) (hk1 : px0 < px1) (hv_pv0 : pv0.isRef = true) :
    Ow.Con l Z EL1 n0 my7 jdk_41_method_11_code 3 (Option.some Jvm.ClassFile.FieldType.int) [] ({ frames := 0, cells := 0, slots := 0, locals := 0 } : Room) #[(.int px0), (.int px1), pv0] [] h0 (fun v h S' => (v = some (.int px0) ∧ h = h0 ∧ S' = [])) := by
 rcases ref_cases hv_pv0 with rfl | ⟨sa_pv0, rfl⟩
 ·refine Ow.Con.enter (Ls := #[.val (.int px0), .val (.int px1), .val .null]) (plainFor_of_name pn3) O0 (hEW hw) (hSA hw) ?_
  intro p e s m below meth c B
  have z0 := Ow.old_le O0
  refine Ow.iloadN (pc' := 1) B e9_0 ?_
  refine Ow.ifF (pc' := 4) B e9_1 (flt (hk0)).1 ?_
  refine Ow.iloadN (pc' := 5) B e9_4 ?_
  refine Ow.iloadN (pc' := 6) B e9_5 ?_
  refine Ow.icmpT (pc' := 16) B e9_6 (tlt (hk1)).1 ?_
  refine Ow.iloadN (pc' := 17) B e9_16 ?_
  exact Ow.retI (S' := []) (t := .int) B e9_17 (⟨rfl, rfl, rfl⟩)
 ·refine Ow.Con.enter (Ls := #[.val (.int px0), .val (.int px1), .val (.ref sa_pv0)]) (plainFor_of_name pn3) O0 (hEW hw) (hSA hw) ?_
  intro p e s m below meth c B
  have z0 := Ow.old_le O0
  refine Ow.iloadN (pc' := 1) B e9_0 ?_
  refine Ow.ifF (pc' := 4) B e9_1 (flt (hk0)).1 ?_
  refine Ow.iloadN (pc' := 5) B e9_4 ?_
  refine Ow.iloadN (pc' := 6) B e9_5 ?_
  refine Ow.icmpT (pc' := 16) B e9_6 (tlt (hk1)).1 ?_
  refine Ow.iloadN (pc' := 17) B e9_16 ?_
  exact Ow.retI (S' := []) (t := .int) B e9_17 (⟨rfl, rfl, rfl⟩)
set_option maxRecDepth 65536 in
set_option maxHeartbeats 40000000 in
theorem con_checkIndex_3 (hw : Hw a0 Z) (G : Ow.Glo Z cz sf) {px0 : Int32} {px1 : Int32} {h0 : Heap} (O0 : Old Z n0 h0) (hk0 : ¬ (px0 < (0 : Int32))) (hk1 : px0 < px1) :
    Ow.Con l Z EL1 n0 my8 jdk_42_method_155_code 2 (Option.none : Option Jvm.ClassFile.FieldType) [] ({ frames := 1, cells := 0, slots := 0, locals := 14 } : Room) #[(.int px0), (.int px1)] [] h0 (fun v h S' => (v = none ∧ h = h0 ∧ S' = [])) := by
 refine Ow.Con.enter (Ls := #[.val (.int px0), .val (.int px1)]) (plainFor_of_name pn1) O0 (hEW hw) (hSA hw) ?_
 intro p e s m below meth c B
 have z0 := Ow.old_le O0
 refine Ow.iloadN (pc' := 1) B e8_0 ?_
 refine Ow.iloadN (pc' := 2) B e8_1 ?_
 refine Ow.getstatic (pc' := 5) B e8_2 (w89 hw) Via.refl G.2.2.1 ?_
 refine Ow.Go.old (fun o1 => ?_)
 refine Ow.callStatic (pc' := 8) (W := 0) (k' := 0) (n' := 0) (argsL := [(.int px0), (.int px1), sf]) (rest := []) B e8_5 (w91 hw) (w92 hw) (w90 hw) (w93 hw) (con_checkIndex_2 hw G (px0 := px0) (px1 := px1) (pv0 := sf) o1 (hk0) (hk1) (G.2.2.2)) pd5 ?_
 intro vq2 h3 S4 q2 zh3
 obtain ⟨rfl, rfl, rfl⟩ := q2
 refine Ow.Go.nr (S' := []) (st' := [(.int px0)]) ?_
 refine Ow.pop (pc' := 9) B e8_8 ?_
 exact Ow.retV (S' := []) B e8_9 (⟨rfl, rfl, rfl⟩)
set_option maxRecDepth 65536 in
set_option maxHeartbeats 40000000 in
theorem gLca (hw : Hw a0 Z) (G : Ow.Glo Z cz sf) {h0 : Heap} (O0 : Old Z n0 h0) {t j : Nat} {kt : ClassId} {x : Int32} {cs : List Int32} (D : Arv Z h0 t kt .byte (Int32.ofNat cs.length) (Ow.LB cs) (.int 0)) (hx : cs[j]? = some x) (r0 : ¬ x < (0 : Int32)) (r1 : ¬ (255 : Int32) < x) (hN : cs.length ≤ 64) :
    Ow.Con l Z EL1 n0 my9 jdk_43_method_2_code 2 (Option.some Jvm.ClassFile.FieldType.char) [] ({ frames := 2, cells := 0, slots := 0, locals := 27 } : Room) #[(.ref t), (.int (Int32.ofNat j))] [] h0 (fun v h S' => v = some (.int x) ∧ h = h0 ∧ S' = []) := by
 refine Ow.Con.enter (Ls := #[.val (.ref t), .val (.int (Int32.ofNat j))]) (plainFor_of_name pn2) O0 (hEW hw) (hSA hw) ?_
 intro p e s m below meth c B
 have z0 := Ow.old_le O0
 have hj := (List.getElem?_eq_some_iff.mp hx).1
 refine Ow.iloadN (pc' := 1) B e7_0 ?_
 refine Ow.aloadN (pc' := 2) B e7_1 ?_
 refine Ow.arrlen (pc' := 3) B e7_2 D ?_
 refine Ow.Go.old (fun o1 => ?_)
 refine Ow.callStatic (pc' := 6) (W := 0) (k' := 0) (n' := 0) (argsL := [(.int (Int32.ofNat j)), (.int (Int32.ofNat cs.length))]) (rest := []) B e7_3 (w86 hw) (w87 hw) (w17 hw) (w88 hw) (con_checkIndex_3 hw G (px0 := (Int32.ofNat j)) (px1 := (Int32.ofNat cs.length)) o1 (Ow.nn) ((Ow.nlT hj))) pd6 ?_
 intro vq2 h3 S4 q2 zh3
 obtain ⟨rfl, rfl, rfl⟩ := q2
 refine Ow.Go.nr (S' := []) (st' := []) ?_
 refine Ow.aloadN (pc' := 7) B e7_6 ?_
 refine Ow.iloadN (pc' := 8) B e7_7 ?_
 refine Ow.baload (pc' := 9) (v := (.int x.toInt8.toInt32)) B e7_8 D ⟨Ow.nn, Ow.nlT hj⟩ (by rw [Ow.nc]; exact Ow.gD (Ow.LBa hx)) ?_
 refine Ow.sipush (pc' := 12) (x := 255) B e7_9 ?_
 refine Ow.iand (pc' := 13) (z := x) (hz := (Ow.b255 (r0) (r1))) B e7_12 ?_
 refine Ow.i2c (pc' := 14) (z := x) (hz := (Ow.c_id (r0) (r1))) B e7_13 ?_
 exact Ow.retI (S' := []) (t := .char) (hnn := (Ow.cnarrow (Ow.nar_id (r0) (r1)))) B e7_14 (⟨rfl, rfl, rfl⟩)
set_option maxRecDepth 65536 in
set_option maxHeartbeats 40000000 in
theorem con_isLatin1_4 (hw : Hw a0 Z) (G : Ow.Glo Z cz sf) {pa0 : Nat} {h0 : Heap} (O0 : Old Z n0 h0) (hf0 : Fld Z h0 pa0 "java/lang/String" "coder" "B" (.int 0)) :
    Ow.Con l Z EL1 n0 my10 jdk_42_method_154_code 1 (Option.some Jvm.ClassFile.FieldType.boolean) [] ({ frames := 0, cells := 0, slots := 0, locals := 0 } : Room) #[(.ref pa0)] [] h0 (fun v h S' => (v = some (.int 1) ∧ h = h0 ∧ S' = [])) := by
 refine Ow.Con.enter (Ls := #[.val (.ref pa0)]) (plainFor_of_name pn1) O0 (hEW hw) (hSA hw) ?_
 intro p e s m below meth c B
 have z0 := Ow.old_le O0
 have lpa0 : (pa0 : Nat) < h0.size := hf0.lt
 refine Ow.getstatic (pc' := 3) B e11_0 (w28 hw) Via.refl G.1 ?_
 refine Ow.ifF (pc' := 6) B e11_3 (feq (G.2.1)).1 ?_
 refine Ow.aloadN (pc' := 7) B e11_6 ?_
 refine Ow.getfield (pc' := 10) B e11_7 (w40 hw) Via.refl hf0 ?_
 refine Ow.ifF (pc' := 13) B e11_10 (by decide) ?_
 refine Ow.iconst (pc' := 14) (x := 1) B e11_13 ?_
 refine Ow.goto (pc' := 18) B e11_14 ?_
 exact Ow.retI (S' := []) (t := .boolean) B e11_18 (⟨rfl, rfl, rfl⟩)
set_option maxRecDepth 65536 in
set_option maxHeartbeats 40000000 in
theorem gCha (hw : Hw a0 Z) (G : Ow.Glo Z cz sf) {h0 : Heap} (O0 : Old Z n0 h0) {b t j : Nat} {kt : ClassId} {x : Int32} {cs : List Int32} (F : Ow.Chs Z h0 b t kt cs) (hx : cs[j]? = some x) (hN : cs.length ≤ 64) (hL : Ow.Lat cs) :
    Ow.Con l Z EL1 n0 my11 jdk_42_method_56_code 2 (Option.some Jvm.ClassFile.FieldType.char) [] ({ frames := 3, cells := 0, slots := 0, locals := 40 } : Room) #[(.ref b), (.int (Int32.ofNat j))] [] h0 (fun v h S' => v = some (.int x) ∧ h = h0 ∧ S' = []) := by
 obtain ⟨oc, oa⟩ := F.lat hL
 refine Ow.Con.enter (Ls := #[.val (.ref b), .val (.int (Int32.ofNat j))]) (plainFor_of_name pn1) O0 (hEW hw) (hSA hw) ?_
 intro p e s m below meth c B
 have z0 := Ow.old_le O0
 have hj := (List.getElem?_eq_some_iff.mp hx).1
 have hm := List.mem_of_getElem? hx
 have ol := hL
 refine Ow.aloadN (pc' := 1) B e10_0 ?_
 refine Ow.Go.old (fun o1 => ?_)
 refine Ow.callVirtual (pc' := 4) (W := 0) (k' := 0) (n' := 0) (argsL := []) (rest := []) (K := "java/lang/String") B e10_1 (w77 hw) (w78 hw) (w80 hw) (w80 hw) (w79 hw) (w17 hw) (w81 hw) F.1 (con_isLatin1_4 hw G (pa0 := b) o1 oc) pd7 ?_
 intro vq2 h3 S4 q2 zh3
 obtain ⟨rfl, rfl, rfl⟩ := q2
 refine Ow.Go.nr (S' := []) (st' := [(.int 1)]) ?_
 refine Ow.ifF (pc' := 7) B e10_4 (by decide) ?_
 refine Ow.aloadN (pc' := 8) B e10_7 ?_
 refine Ow.getfield (pc' := 11) B e10_8 (w42 hw) Via.refl F.2.1 ?_
 refine Ow.iloadN (pc' := 12) B e10_11 ?_
 refine Ow.Go.old (fun o5 => ?_)
 refine Ow.callStatic (pc' := 15) (W := 0) (k' := 0) (n' := 0) (argsL := [(.ref t), (.int (Int32.ofNat j))]) (rest := []) B e10_12 (w82 hw) (w83 hw) (w84 hw) (w85 hw) (gLca hw G o5 oa hx (F.2.2.1 x hm).1 (ol x hm) hN) pd8 ?_
 intro vq6 h7 S8 q6 zh7
 obtain ⟨rfl, rfl, rfl⟩ := q6
 refine Ow.Go.nr (S' := []) (st' := [(.int x)]) ?_
 exact Ow.retI (S' := []) (t := .char) (hnn := (Ow.cnarrow (Ow.nar_id16 ((F.2.2.1 x hm).1) ((F.2.2.1 x hm).2)))) B e10_15 (⟨rfl, rfl, rfl⟩)
set_option maxRecDepth 65536 in
set_option maxHeartbeats 40000000 in
theorem gMin (hw : Hw a0 Z) (G : Ow.Glo Z cz sf) {h0 : Heap} (O0 : Old Z n0 h0) {m' n : Nat} (hn : n ≤ m') (hm : m' ≤ 128) :
    Ow.Con l Z EL1 n0 my12 jdk_29_method_69_code 2 (Option.some Jvm.ClassFile.FieldType.int) [] ({ frames := 0, cells := 0, slots := 0, locals := 0 } : Room) #[(.int (Int32.ofNat m')), (.int (Int32.ofNat n))] [] h0 (fun v h S' => v = some (.int (Int32.ofNat n)) ∧ h = h0 ∧ S' = []) := by
 refine Ow.Con.enter (Ls := #[.val (.int (Int32.ofNat m')), .val (.int (Int32.ofNat n))]) (by decide +kernel) O0 (hEW hw) (hSA hw) ?_
 intro p e s m below meth c B
 have z0 := Ow.old_le O0
 refine Ow.iloadN (pc' := 1) B e12_0 ?_
 refine Ow.iloadN (pc' := 2) B e12_1 ?_
 by_cases cM : (Int32.ofNat n) < (Int32.ofNat m')
 ·refine Ow.icmpT (pc' := 9) B e12_2 (tlt cM).2.2.1 ?_
  refine Ow.iloadN (pc' := 10) B e12_9 ?_
  exact Ow.retI (S' := []) (t := .int) B e12_10 (⟨rfl, rfl, rfl⟩)
 ·refine Ow.icmpF (pc' := 5) B e12_2 (flt cM).2.2.1 ?_
  refine Ow.iloadN (pc' := 6) B e12_5 ?_
  refine Ow.goto (pc' := 10) B e12_6 ?_
  exact Ow.retI (S' := []) (t := .int) B e12_10 (⟨by rw [show m' = n from by have q : ¬ n < m' := fun q => cM (Ow.nlT q); omega], rfl, rfl⟩)
set_option maxRecDepth 65536 in
set_option maxHeartbeats 40000000 in
theorem con_checkLength_5 (hw : Hw a0 Z) (G : Ow.Glo Z cz sf) {px0 : Int32} {px1 : Int32} {h0 : Heap} (O0 : Old Z n0 h0) (hk0 : ¬ (px1 < px0)) :
    Ow.Con l Z EL1 n0 my13 jdk_65_method_131_code 2 (Option.none : Option Jvm.ClassFile.FieldType) [] ({ frames := 0, cells := 0, slots := 0, locals := 0 } : Room) #[(.int px0), (.int px1)] [] h0 (fun v h S' => (v = none ∧ h = h0 ∧ S' = [])) := by
 refine Ow.Con.enter (Ls := #[.val (.int px0), .val (.int px1)]) (plainFor_of_name pn4) O0 (hEW hw) (hSA hw) ?_
 intro p e s m below meth c B
 have z0 := Ow.old_le O0
 refine Ow.iloadN (pc' := 1) B e14_0 ?_
 refine Ow.iloadN (pc' := 2) B e14_1 ?_
 refine Ow.icmpT (pc' := 37) B e14_2 (flt (hk0)).2.1 ?_
 exact Ow.retV (S' := []) B e14_37 (⟨rfl, rfl, rfl⟩)
set_option maxRecDepth 65536 in
set_option maxHeartbeats 40000000 in
theorem gCrb (hw : Hw a0 Z) (G : Ow.Glo Z cz sf) {h0 : Heap} (O0 : Old Z n0 h0) {t M i e' : Nat} {kt : ClassId} {vs : List Value} (D : Arv Z h0 t kt .byte (Int32.ofNat M) vs (.int 0)) (hv : vs.length = M) (hi : i ≤ e') (he : e' ≤ M) (hM : M ≤ 128) (hC : e' - i ≤ 16) :
    Ow.Con l Z EL1 n0 my14 jdk_65_method_133_code 5 (Option.some (Jvm.ClassFile.FieldType.array Jvm.ClassFile.FieldType.byte)) [] ({ frames := 1, cells := 1, slots := 16, locals := 18 } : Room) #[(.ref t), (.int (Int32.ofNat i)), (.int (Int32.ofNat e'))] [] h0 (fun v h S' => ∃ r : Nat, ∃ kr : ClassId, v = some (.ref r) ∧ Keep h0 h [] ∧ h0.size ≤ r ∧ Arv Z h r kr .byte (Int32.ofNat (e' - i)) ((vs.drop i).take (e' - i)) (.int 0) ∧ S' = [r]) := by
 refine Ow.Con.enter (Ls := #[.val (.ref t), .val (.int (Int32.ofNat i)), .val (.int (Int32.ofNat e')), .unset, .unset]) (plainFor_of_name pn4) O0 (hEW hw) (hSA hw) ?_
 intro p e s m below meth c B
 have z0 := Ow.old_le O0
 have lt0 : (t : Nat) < h0.size := D.lt
 refine Ow.iloadN (pc' := 1) B e13_0 ?_
 refine Ow.iloadN (pc' := 2) B e13_1 ?_
 refine Ow.Go.old (fun o1 => ?_)
 refine Ow.callStatic (pc' := 5) (W := 0) (k' := 0) (n' := 0) (argsL := [(.int (Int32.ofNat i)), (.int (Int32.ofNat e'))]) (rest := []) B e13_2 (w156 hw) (w157 hw) (w151 hw) (w158 hw) (con_checkLength_5 hw G (px0 := (Int32.ofNat i)) (px1 := (Int32.ofNat e')) o1 ((Ow.nlF (by omega)))) pd6 ?_
 intro vq2 h3 S4 q2 zh3
 obtain ⟨rfl, rfl, rfl⟩ := q2
 refine Ow.Go.nr (S' := []) (st' := []) ?_
 refine Ow.iloadN (pc' := 6) B e13_5 ?_
 refine Ow.iloadN (pc' := 7) B e13_6 ?_
 refine Ow.isub (pc' := 8) (z := (Int32.ofNat (e' - i))) (hz := (Ow.nsub hi)) B e13_7 ?_
 refine Ow.istoreN (pc' := 9) (Ls' := #[.val (.ref t), .val (.int (Int32.ofNat i)), .val (.int (Int32.ofNat e')), .val (.int (Int32.ofNat (e' - i))), .unset]) B e13_8 ?_
 refine Ow.iloadN (pc' := 10) B e13_9 ?_
 refine Ow.newArr (pc' := 12) (k' := 1) (n' := 16) (cap := 16) B e13_10 (w33 hw) Ow.nn (by rw [Ow.nc]; omega) ?_
 intro h6 a5 ka5 ga5 ba5 Kh6 V0a5
 have zh6 := Kh6.1
 have la5 : (a5 : Nat) < h6.size := V0a5.lt
 refine Ow.astore (pc' := 14) (Ls' := #[.val (.ref t), .val (.int (Int32.ofNat i)), .val (.int (Int32.ofNat e')), .val (.int (Int32.ofNat (e' - i))), .val (.ref a5)]) B e13_12 ?_
 refine Ow.aloadN (pc' := 15) B e13_14 ?_
 refine Ow.iloadN (pc' := 16) B e13_15 ?_
 refine Ow.aload (pc' := 18) B e13_16 ?_
 refine Ow.iconst (pc' := 19) (x := 0) B e13_18 ?_
 refine Ow.aloadN (pc' := 20) B e13_19 ?_
 have f7 := D.keep Kh6 Ow.nin0
 refine Ow.arrlen (pc' := 21) B e13_20 f7 ?_
 refine Ow.iloadN (pc' := 22) B e13_21 ?_
 refine Ow.isub (pc' := 23) (z := (Int32.ofNat (M - i))) (hz := (Ow.nsub (by omega))) B e13_22 ?_
 refine Ow.iloadN (pc' := 24) B e13_23 ?_
 refine Ow.Go.old (fun o8 => ?_)
 refine Ow.callStatic (pc' := 27) (W := 4) (k' := 1) (n' := 16) (argsL := [(.int (Int32.ofNat (M - i))), (.int (Int32.ofNat (e' - i)))]) (rest := [(.int 0), (.ref a5), (.int (Int32.ofNat i)), (.ref t)]) B e13_24 (w159 hw) (w1 hw) (w2 hw) (w3 hw) (gMin hw G o8 (by omega) (by omega)) pd9 ?_
 intro vq9 h10 S11 q9 zh10
 obtain ⟨rfl, rfl, rfl⟩ := q9
 refine Ow.Go.nr (S' := [a5]) (st' := [(.int (Int32.ofNat (e' - i))), (.int 0), (.ref a5), (.int (Int32.ofNat i)), (.ref t)]) ?_
 refine Ow.acopy (pc' := 30) (W := 0) (us := (vs.drop i).take (e' - i)) B e13_27 (w160 hw) (w163 hw) (w161 hw) (w162 hw) f7 (V0a5.pad (pad_rep [] (.int 0) (e' - i))) (by simp) ?_ (h1 := Ow.nn) (h2 := by decide) (h3 := Ow.nn) (h4 := by rw [Ow.nc, Ow.nc, Ow.nc]; omega) (h5 := by rw [Ow.nc]; exact Nat.le_of_eq (Nat.zero_add _)) (hl := by rw [Ow.nc]; simp) (hus := by rw [Ow.nc, Ow.nc]; exact Ow.cpy (by omega))
 intro h12 Kh12 V13
 have zh12 := Kh12.1
 refine Ow.aload (pc' := 32) B e13_30 ?_
 exact Ow.retA (S' := [a5]) (t := (.array .byte)) B e13_32 (⟨a5, ka5, rfl, (((Keep.refl _ []).trans Kh6 (fun _ q => nomatch q)).trans Kh12 (allS (Or.inr (by omega)) all0)), (by omega), V13, rfl⟩)
set_option maxRecDepth 65536 in
set_option maxHeartbeats 40000000 in
theorem gCor (hw : Hw a0 Z) (G : Ow.Glo Z cz sf) {h0 : Heap} (O0 : Old Z n0 h0) {t M i e' : Nat} {kt : ClassId} {vs : List Value} (D : Arv Z h0 t kt .byte (Int32.ofNat M) vs (.int 0)) (hv : vs.length = M) (hi : i ≤ e') (he : e' ≤ M) (hM : M ≤ 128) (hC : e' - i ≤ 16) (hf : ¬ (i = 0 ∧ e' = M)) :
    Ow.Con l Z EL1 n0 my15 jdk_65_method_132_code 3 (Option.some (Jvm.ClassFile.FieldType.array Jvm.ClassFile.FieldType.byte)) [] ({ frames := 2, cells := 1, slots := 16, locals := 34 } : Room) #[(.ref t), (.int (Int32.ofNat i)), (.int (Int32.ofNat e'))] [] h0 (fun v h S' => ∃ r : Nat, ∃ kr : ClassId, v = some (.ref r) ∧ Keep h0 h [] ∧ h0.size ≤ r ∧ Arv Z h r kr .byte (Int32.ofNat (e' - i)) ((vs.drop i).take (e' - i)) (.int 0) ∧ S' = [r]) := by
 refine Ow.Con.enter (Ls := #[.val (.ref t), .val (.int (Int32.ofNat i)), .val (.int (Int32.ofNat e'))]) (plainFor_of_name pn4) O0 (hEW hw) (hSA hw) ?_
 intro p e s m below meth c B
 have z0 := Ow.old_le O0
 have lt0 : (t : Nat) < h0.size := D.lt
 refine Ow.iloadN (pc' := 1) B e15_0 ?_
 by_cases c1 : (Int32.ofNat i) = (0 : Int32)
 ·refine Ow.ifF (pc' := 4) B e15_1 (teq c1).2 ?_
  refine Ow.iloadN (pc' := 5) B e15_4 ?_
  refine Ow.aloadN (pc' := 6) B e15_5 ?_
  refine Ow.arrlen (pc' := 7) B e15_6 D ?_
  refine Ow.icmpF (pc' := 10) B e15_7 (feq (Ow.nE (h := fun q => hf ⟨Ow.nz c1 (by omega), q⟩))).1 ?_
  refine Ow.aloadN (pc' := 11) B e15_10 ?_
  refine Ow.iloadN (pc' := 12) B e15_11 ?_
  refine Ow.iloadN (pc' := 13) B e15_12 ?_
  refine Ow.Go.old (fun o1 => ?_)
  refine Ow.callStatic (pc' := 16) (W := 0) (k' := 1) (n' := 16) (argsL := [(.ref t), (.int (Int32.ofNat i)), (.int (Int32.ofNat e'))]) (rest := []) B e15_13 (w153 hw) (w154 hw) (w151 hw) (w155 hw) (gCrb hw G o1 D hv hi he hM hC) pd10 ?_
  intro vq2 h3 S4 q2 zh3
  obtain ⟨r5, k6, rfl, Kh3, br5, f7, rfl⟩ := q2
  have lr5 : (r5 : Nat) < h3.size := f7.lt
  refine Ow.Go.norm (S' := [r5]) (st' := [(.ref r5)]) (fun _ q => q) rfl ?_
  exact Ow.retA (S' := [r5]) (t := (.array .byte)) B e15_16 (⟨r5, k6, rfl, ((Keep.refl _ []).trans Kh3 (fun _ q => nomatch q)), (by omega), f7, rfl⟩)
 ·refine Ow.ifT (pc' := 10) B e15_1 (feq c1).2 ?_
  refine Ow.aloadN (pc' := 11) B e15_10 ?_
  refine Ow.iloadN (pc' := 12) B e15_11 ?_
  refine Ow.iloadN (pc' := 13) B e15_12 ?_
  refine Ow.Go.old (fun o8 => ?_)
  refine Ow.callStatic (pc' := 16) (W := 0) (k' := 1) (n' := 16) (argsL := [(.ref t), (.int (Int32.ofNat i)), (.int (Int32.ofNat e'))]) (rest := []) B e15_13 (w153 hw) (w154 hw) (w151 hw) (w155 hw) (gCrb hw G o8 D hv hi he hM hC) pd10 ?_
  intro vq9 h10 S11 q9 zh10
  obtain ⟨r12, k13, rfl, Kh10, br12, f14, rfl⟩ := q9
  have lr12 : (r12 : Nat) < h10.size := f14.lt
  refine Ow.Go.norm (S' := [r12]) (st' := [(.ref r12)]) (fun _ q => q) rfl ?_
  exact Ow.retA (S' := [r12]) (t := (.array .byte)) B e15_16 (⟨r12, k13, rfl, ((Keep.refl _ []).trans Kh10 (fun _ q => nomatch q)), (by omega), f14, rfl⟩)
set_option maxRecDepth 65536 in
set_option maxHeartbeats 40000000 in
theorem con_init_6 (hw : Hw a0 Z) (G : Ow.Glo Z cz sf) {pa0 : Nat} {pa1 : Nat} {h0 : Heap} (O0 : Old Z n0 h0) (hf0 : Exa Z h0 pa0 "java/lang/String") (hf1 : Fld Z h0 pa0 "java/lang/String" "coder" "B" (.int 0)) (hf2 : Fld Z h0 pa0 "java/lang/String" "value" "[B" .null) (hn0 : n0 ≤ pa0) :
    Ow.Con l Z EL1 n0 my16 jdk_42_method_151_code 3 (Option.none : Option Jvm.ClassFile.FieldType) [] ({ frames := 1, cells := 0, slots := 0, locals := 12 } : Room) #[(.ref pa0), (.ref pa1), (.int 0)] [pa0] h0 (fun v h S' => (v = none ∧ Keep h0 h [pa0] ∧ Exa Z h pa0 "java/lang/String" ∧ Fld Z h pa0 "java/lang/String" "coder" "B" (.int 0) ∧ Fld Z h pa0 "java/lang/String" "value" "[B" (.ref pa1) ∧ S' = [])) := by
 refine Ow.Con.enter (Ls := #[.val (.ref pa0), .val (.ref pa1), .val (.int 0)]) (plainFor_of_name pn1) O0 (hEW hw) (hSA hw) ?_
 intro p e s m below meth c B
 have z0 := Ow.old_le O0
 have lpa0 : (pa0 : Nat) < h0.size := hf0.lt
 refine Ow.aloadN (pc' := 1) B e17_0 ?_
 refine Ow.objInit (pc' := 4) (W := 0) B e17_1 (w25 hw) (w26 hw) (w27 hw) ?_
 refine Ow.aloadN (pc' := 5) B e17_4 ?_
 refine Ow.aloadN (pc' := 6) B e17_5 ?_
 refine Ow.putfield (pc' := 9) (ty := (.array .byte)) B e17_6 (w42 hw) Via.refl hf2 hf0 (Or.inr ⟨(w43 hw), rfl, rfl⟩) (w16 hw) (Or.inl (by simp)) ?_
 intro h1 Wh1
 have Kh1 := Keep.of_wr Wh1
 have zh1 := Kh1.1
 have f2 : Fld Z h1 pa0 "java/lang/String" "value" "[B" (.ref pa1) := hf2.same Wh1
 have f3 : Fld Z h1 pa0 "java/lang/String" "coder" "B" (.int 0) := hf1.other Wh1 (Or.inr (slot_ne (a0 := a0) (C := "java/lang/String") (t := .byte) (t' := (.array .byte)) (Or.inr (w41 hw)) (Or.inr (w43 hw)) (by decide) (by decide) (by decide)))
 refine Ow.aloadN (pc' := 10) B e17_9 ?_
 refine Ow.iloadN (pc' := 11) B e17_10 ?_
 have f4 := hf0.keep Kh1
 refine Ow.putfield (pc' := 14) (ty := .byte) B e17_11 (w40 hw) Via.refl f3 f4 (Or.inr ⟨(w41 hw), rfl, rfl⟩) (w16 hw) (Or.inl (by simp)) ?_
 intro h5 Wh5
 have Kh5 := Keep.of_wr Wh5
 have zh5 := Kh5.1
 have f6 : Fld Z h5 pa0 "java/lang/String" "coder" "B" (.int 0) := f3.same Wh5
 have f7 : Fld Z h5 pa0 "java/lang/String" "value" "[B" (.ref pa1) := f2.other Wh5 (Or.inr (slot_ne (a0 := a0) (C := "java/lang/String") (t := (.array .byte)) (t' := .byte) (Or.inr (w43 hw)) (Or.inr (w41 hw)) (by decide) (by decide) (by decide)))
 have f8 := f4.keep Kh5
 exact Ow.retV (S' := []) B e17_14 (⟨rfl, (((Keep.refl _ [pa0]).trans Kh1 (allS (Or.inl (by simp)) all0)).trans Kh5 (allS (Or.inl (by simp)) all0)), f8, f6, f7, rfl⟩)
set_option maxRecDepth 65536 in
set_option maxHeartbeats 40000000 in
theorem gNsL (hw : Hw a0 Z) (G : Ow.Glo Z cz sf) {h0 : Heap} (O0 : Old Z n0 h0) {t i n : Nat} {kt : ClassId} {cs : List Int32} (D : Arv Z h0 t kt .byte (Int32.ofNat cs.length) (Ow.LB cs) (.int 0)) (hR : Ow.Rng cs) (hin : i + n ≤ cs.length) (hf : ¬ (i = 0 ∧ n = cs.length)) (hC : cs.length ≤ 8) (hN : cs.length ≤ 64) (hL : Ow.Lat cs) :
    Ow.Con l Z EL1 n0 my17 jdk_43_method_47_code 3 (Option.some (Jvm.ClassFile.FieldType.object "java/lang/String")) [] ({ frames := 3, cells := 2, slots := 20, locals := 50 } : Room) #[(.ref t), (.int (Int32.ofNat i)), (.int (Int32.ofNat n))] [] h0 (fun v h S' => ∃ r : Nat, ∃ t' : Nat, ∃ kr : ClassId, v = some (.ref r) ∧ Keep h0 h [] ∧ Ow.Chs Z h r t' kr (Ow.sl cs i n) ∧ S' = []) := by
 refine Ow.Con.enter (Ls := #[.val (.ref t), .val (.int (Int32.ofNat i)), .val (.int (Int32.ofNat n))]) (plainFor_of_name pn2) O0 (hEW hw) (hSA hw) ?_
 intro p e s m below meth c B
 have z0 := Ow.old_le O0
 have lt0 : (t : Nat) < h0.size := D.lt
 refine Ow.iloadN (pc' := 1) B e16_0 ?_
 by_cases c1 : (Int32.ofNat n) = (0 : Int32)
 ·obtain rfl := Ow.nz c1 (by omega)
  refine Ow.ifF (pc' := 4) B e16_1 (teq c1).2 ?_
  refine Ow.ldcText (pc' := 6) (k' := 2) (n' := 4) (nn := 0) (vs := []) (z := 0) B e16_4 (w167 hw) (by decide) ⟨by decide, by decide⟩ (by decide) (by decide) ?_
  intro h2 a1 t3 kt3 Kh2 Ea1 Ca1 Va1 At3 Na1
  have zh2 := Kh2.1
  have la1 : (a1 : Nat) < h2.size := Ea1.lt
  have lt3 : (t3 : Nat) < h2.size := At3.lt
  exact Ow.retA (S' := []) (t := (.object "java/lang/String")) B e16_6 (⟨a1, t3, kt3, rfl, ((Keep.refl _ []).trans Kh2 (fun _ q => nomatch q)), (Ow.Chs.nil Ea1 Va1 Ca1 At3), rfl⟩)
 ·have hpos : n ≠ 0 := fun q => c1 (by rw [q]; rfl)
  refine Ow.ifT (pc' := 7) B e16_1 (feq c1).2 ?_
  refine Ow.newObj (pc' := 10) (k' := 1) (n' := 4) B e16_7 (w148 hw) (w16 hw) (w17 hw) ?_
  intro h5 a4 ga4 ba4 Kh5 Aa4 Da4
  have zh5 := Kh5.1
  have la4 : (a4 : Nat) < h5.size := Aa4.lt
  have f6 : Fld Z h5 a4 "java/lang/String" "coder" "B" (.int 0) := Da4 (Or.inr (w41 hw)) (ty := .byte) (by decide)
  have f7 : Fld Z h5 a4 "java/lang/String" "value" "[B" .null := Da4 (Or.inr (w43 hw)) (ty := (.array .byte)) (by decide)
  refine Ow.dup (pc' := 11) B e16_10 ?_
  refine Ow.aloadN (pc' := 12) B e16_11 ?_
  refine Ow.iloadN (pc' := 13) B e16_12 ?_
  refine Ow.iloadN (pc' := 14) B e16_13 ?_
  refine Ow.iloadN (pc' := 15) B e16_14 ?_
  refine Ow.iadd (pc' := 16) (z := (Int32.ofNat (i + n))) (hz := (Ow.nadd i n)) B e16_15 ?_
  have f8 := D.keep Kh5 Ow.nin0
  refine Ow.Go.old (fun o9 => ?_)
  refine Ow.callStatic (pc' := 19) (W := 2) (k' := 2) (n' := 20) (argsL := [(.ref t), (.int (Int32.ofNat i)), (.int (Int32.ofNat (i + n)))]) (rest := [(.ref a4), (.ref a4)]) B e16_16 (w149 hw) (w150 hw) (w151 hw) (w152 hw) (gCor hw G (M := cs.length) (i := i) (e' := i + n) o9 f8 (by simp) (by omega) (by omega) (by omega) (by omega) (by omega)) pd10 ?_
  intro vq10 h11 S12 q10 zh11
  obtain ⟨r13, k14, rfl, Kh11, br13, f15, rfl⟩ := q10
  have lr13 : (r13 : Nat) < h11.size := f15.lt
  have f16 := Ow.Arv.slL f15 hin
  refine Ow.Go.norm (S' := [r13, a4]) (st' := [(.ref r13), (.ref a4), (.ref a4)]) (fun _ q => q) rfl ?_
  refine Ow.iconst (pc' := 20) (x := 0) B e16_19 ?_
  refine Ow.Go.old (fun o17 => ?_)
  have f18 := Aa4.keep Kh11
  have f19 := f6.keep Kh11 Ow.nin0
  have f20 := f7.keep Kh11 Ow.nin0
  refine Ow.callInit (pc' := 23) (W := 1) (k' := 2) (n' := 20) (argsL := [(.ref r13), (.int 0)]) (rest := [(.ref a4)]) B e16_20 (w164 hw) (w165 hw) (w17 hw) (w166 hw) (con_init_6 hw G (pa0 := a4) (pa1 := r13) o17 f18 f19 f20 (by omega)) pd11 ?_
  intro vq21 h22 S23 q21 zh22
  obtain ⟨rfl, Kh22, f24, f25, f26, rfl⟩ := q21
  refine Ow.Go.nr (S' := [r13, a4]) (st' := [(.ref a4)]) ?_
  have f27 := f16.keep Kh22 (Ow.ninS (by omega) Ow.nin0)
  exact Ow.retA (S' := []) (t := (.object "java/lang/String")) B e16_23 (⟨a4, r13, k14, rfl, ((((Keep.refl _ []).trans Kh5 (fun _ q => nomatch q)).trans Kh11 (fun _ q => nomatch q)).trans Kh22 (allS (Or.inr (by omega)) all0)), ⟨f24, f26, (fun x q => hR x (Ow.sl_mem q)), Or.inl ⟨f25, f27, (fun x q => hL x (Ow.sl_mem q))⟩⟩, rfl⟩)
set_option maxRecDepth 65536 in
set_option maxHeartbeats 40000000 in
theorem con_checkFromToIndex_7 (hw : Hw a0 Z) (G : Ow.Glo Z cz sf) {px0 : Int32} {px1 : Int32} {px2 : Int32} {pv0 : Value} {h0 : Heap} (O0 : Old Z n0 h0) (hk0 : ¬ (px0 < (0 : Int32))) (hk1 : ¬ (px1 < px0)) (hk2 : ¬ (px2 < px1)) (hv_pv0 : pv0.isRef = true) :
    Ow.Con l Z EL1 n0 my18 jdk_41_method_12_code 4 (Option.some Jvm.ClassFile.FieldType.int) [] ({ frames := 0, cells := 0, slots := 0, locals := 0 } : Room) #[(.int px0), (.int px1), (.int px2), pv0] [] h0 (fun v h S' => (v = some (.int px0) ∧ h = h0 ∧ S' = [])) := by
 rcases ref_cases hv_pv0 with rfl | ⟨sa_pv0, rfl⟩
 ·refine Ow.Con.enter (Ls := #[.val (.int px0), .val (.int px1), .val (.int px2), .val .null]) (plainFor_of_name pn3) O0 (hEW hw) (hSA hw) ?_
  intro p e s m below meth c B
  have z0 := Ow.old_le O0
  refine Ow.iloadN (pc' := 1) B e20_0 ?_
  refine Ow.ifF (pc' := 4) B e20_1 (flt (hk0)).1 ?_
  refine Ow.iloadN (pc' := 5) B e20_4 ?_
  refine Ow.iloadN (pc' := 6) B e20_5 ?_
  refine Ow.icmpF (pc' := 9) B e20_6 (flt (hk1)).2.2.1 ?_
  refine Ow.iloadN (pc' := 10) B e20_9 ?_
  refine Ow.iloadN (pc' := 11) B e20_10 ?_
  refine Ow.icmpT (pc' := 22) B e20_11 (flt (hk2)).2.2.2 ?_
  refine Ow.iloadN (pc' := 23) B e20_22 ?_
  exact Ow.retI (S' := []) (t := .int) B e20_23 (⟨rfl, rfl, rfl⟩)
 ·refine Ow.Con.enter (Ls := #[.val (.int px0), .val (.int px1), .val (.int px2), .val (.ref sa_pv0)]) (plainFor_of_name pn3) O0 (hEW hw) (hSA hw) ?_
  intro p e s m below meth c B
  have z0 := Ow.old_le O0
  refine Ow.iloadN (pc' := 1) B e20_0 ?_
  refine Ow.ifF (pc' := 4) B e20_1 (flt (hk0)).1 ?_
  refine Ow.iloadN (pc' := 5) B e20_4 ?_
  refine Ow.iloadN (pc' := 6) B e20_5 ?_
  refine Ow.icmpF (pc' := 9) B e20_6 (flt (hk1)).2.2.1 ?_
  refine Ow.iloadN (pc' := 10) B e20_9 ?_
  refine Ow.iloadN (pc' := 11) B e20_10 ?_
  refine Ow.icmpT (pc' := 22) B e20_11 (flt (hk2)).2.2.2 ?_
  refine Ow.iloadN (pc' := 23) B e20_22 ?_
  exact Ow.retI (S' := []) (t := .int) B e20_23 (⟨rfl, rfl, rfl⟩)
set_option maxRecDepth 65536 in
set_option maxHeartbeats 40000000 in
theorem con_checkBoundsBeginEnd_8 (hw : Hw a0 Z) (G : Ow.Glo Z cz sf) {px0 : Int32} {px1 : Int32} {px2 : Int32} {h0 : Heap} (O0 : Old Z n0 h0) (hk0 : ¬ (px0 < (0 : Int32))) (hk1 : ¬ (px1 < px0)) (hk2 : ¬ (px2 < px1)) :
    Ow.Con l Z EL1 n0 my19 jdk_42_method_158_code 3 (Option.none : Option Jvm.ClassFile.FieldType) [] ({ frames := 1, cells := 0, slots := 0, locals := 15 } : Room) #[(.int px0), (.int px1), (.int px2)] [] h0 (fun v h S' => (v = none ∧ h = h0 ∧ S' = [])) := by
 refine Ow.Con.enter (Ls := #[.val (.int px0), .val (.int px1), .val (.int px2)]) (plainFor_of_name pn1) O0 (hEW hw) (hSA hw) ?_
 intro p e s m below meth c B
 have z0 := Ow.old_le O0
 refine Ow.iloadN (pc' := 1) B e19_0 ?_
 refine Ow.iloadN (pc' := 2) B e19_1 ?_
 refine Ow.iloadN (pc' := 3) B e19_2 ?_
 refine Ow.getstatic (pc' := 6) B e19_3 (w89 hw) Via.refl G.2.2.1 ?_
 refine Ow.Go.old (fun o1 => ?_)
 refine Ow.callStatic (pc' := 9) (W := 0) (k' := 0) (n' := 0) (argsL := [(.int px0), (.int px1), (.int px2), sf]) (rest := []) B e19_6 (w137 hw) (w138 hw) (w90 hw) (w139 hw) (con_checkFromToIndex_7 hw G (px0 := px0) (px1 := px1) (px2 := px2) (pv0 := sf) o1 (hk0) (hk1) (hk2) (G.2.2.2)) pd13 ?_
 intro vq2 h3 S4 q2 zh3
 obtain ⟨rfl, rfl, rfl⟩ := q2
 refine Ow.Go.nr (S' := []) (st' := [(.int px0)]) ?_
 refine Ow.pop (pc' := 10) B e19_9 ?_
 exact Ow.retV (S' := []) B e19_10 (⟨rfl, rfl, rfl⟩)
set_option maxRecDepth 65536 in
set_option maxHeartbeats 40000000 in
theorem gSub (hw : Hw a0 Z) (G : Ow.Glo Z cz sf) {h0 : Heap} (O0 : Old Z n0 h0) {b t i e' : Nat} {kt : ClassId} {cs : List Int32} (F : Ow.Chs Z h0 b t kt cs) (hi : i ≤ e') (he : e' ≤ cs.length) (hL : Ow.Lat cs) (hC : cs.length ≤ 8) (hN : cs.length ≤ 64) :
    Ow.Con l Z EL1 n0 my20 jdk_42_method_92_code 5 (Option.some (Jvm.ClassFile.FieldType.object "java/lang/String")) [] ({ frames := 4, cells := 2, slots := 20, locals := 64 } : Room) #[(.ref b), (.int (Int32.ofNat i)), (.int (Int32.ofNat e'))] [] h0 (fun v h S' => ∃ r : Nat, ∃ t' : Nat, ∃ kr : ClassId, v = some (.ref r) ∧ Keep h0 h [] ∧ Ow.Chs Z h r t' kr (Ow.sl cs i (e' - i)) ∧ S' = []) := by
 obtain ⟨oc, oa⟩ := F.lat hL
 refine Ow.Con.enter (Ls := #[.val (.ref b), .val (.int (Int32.ofNat i)), .val (.int (Int32.ofNat e')), .unset, .unset]) (plainFor_of_name pn1) O0 (hEW hw) (hSA hw) ?_
 intro p e s m below meth c B
 have z0 := Ow.old_le O0
 have lt0 : (t : Nat) < h0.size := F.ltt
 refine Ow.aloadN (pc' := 1) B e18_0 ?_
 refine Ow.Go.old (fun o1 => ?_)
 refine Ow.callVirtual (pc' := 4) (W := 0) (k' := 0) (n' := 0) (argsL := []) (rest := []) (K := "java/lang/String") B e18_1 (w115 hw) (w63 hw) (w65 hw) (w65 hw) (w64 hw) (w17 hw) (w66 hw) F.1 (gLen hw G o1 F (by omega) hL) pd12 ?_
 intro vq2 h3 S4 q2 zh3
 obtain ⟨rfl, rfl, rfl⟩ := q2
 refine Ow.Go.nr (S' := []) (st' := [(.int (Int32.ofNat cs.length))]) ?_
 refine Ow.istoreN (pc' := 5) (Ls' := #[.val (.ref b), .val (.int (Int32.ofNat i)), .val (.int (Int32.ofNat e')), .val (.int (Int32.ofNat cs.length)), .unset]) B e18_4 ?_
 refine Ow.iloadN (pc' := 6) B e18_5 ?_
 refine Ow.iloadN (pc' := 7) B e18_6 ?_
 refine Ow.iloadN (pc' := 8) B e18_7 ?_
 refine Ow.Go.old (fun o5 => ?_)
 refine Ow.callStatic (pc' := 11) (W := 0) (k' := 0) (n' := 0) (argsL := [(.int (Int32.ofNat i)), (.int (Int32.ofNat e')), (.int (Int32.ofNat cs.length))]) (rest := []) B e18_8 (w134 hw) (w135 hw) (w17 hw) (w136 hw) (con_checkBoundsBeginEnd_8 hw G (px0 := (Int32.ofNat i)) (px1 := (Int32.ofNat e')) (px2 := (Int32.ofNat cs.length)) o5 (Ow.nn) ((Ow.nlF (by omega))) ((Ow.nlF (by omega)))) pd14 ?_
 intro vq6 h7 S8 q6 zh7
 obtain ⟨rfl, rfl, rfl⟩ := q6
 refine Ow.Go.nr (S' := []) (st' := []) ?_
 refine Ow.iloadN (pc' := 12) B e18_11 ?_
 by_cases c12 : (Int32.ofNat i) = (0 : Int32)
 ·refine Ow.ifF (pc' := 15) B e18_12 (teq c12).2 ?_
  refine Ow.iloadN (pc' := 16) B e18_15 ?_
  refine Ow.iloadN (pc' := 17) B e18_16 ?_
  by_cases c17 : (Int32.ofNat e') = (Int32.ofNat cs.length)
  ·refine Ow.icmpF (pc' := 20) B e18_17 (teq c17).2 ?_
   refine Ow.aloadN (pc' := 21) B e18_20 ?_
   exact Ow.retA (S' := []) (t := (.object "java/lang/String")) B e18_21 (⟨b, t, kt, rfl, Keep.refl _ _, (by rw [Ow.nz c12 (by omega), (Ow.nEq c17 : e' = cs.length)]; simpa [Ow.sl] using F), rfl⟩)
  ·have hf : ¬ (i = 0 ∧ e' - i = cs.length) := fun q => c17 (by rw [show e' = cs.length from by omega])
   refine Ow.icmpT (pc' := 22) B e18_17 (feq c17).2 ?_
   refine Ow.iloadN (pc' := 23) B e18_22 ?_
   refine Ow.iloadN (pc' := 24) B e18_23 ?_
   refine Ow.isub (pc' := 25) (z := (Int32.ofNat (e' - i))) (hz := (Ow.nsub hi)) B e18_24 ?_
   refine Ow.istore (pc' := 27) (Ls' := #[.val (.ref b), .val (.int (Int32.ofNat i)), .val (.int (Int32.ofNat e')), .val (.int (Int32.ofNat cs.length)), .val (.int (Int32.ofNat (e' - i)))]) B e18_25 ?_
   refine Ow.aloadN (pc' := 28) B e18_27 ?_
   refine Ow.Go.old (fun o9 => ?_)
   refine Ow.callVirtual (pc' := 31) (W := 0) (k' := 0) (n' := 0) (argsL := []) (rest := []) (K := "java/lang/String") B e18_28 (w77 hw) (w78 hw) (w80 hw) (w80 hw) (w79 hw) (w17 hw) (w81 hw) F.1 (con_isLatin1_4 hw G (pa0 := b) o9 oc) pd7 ?_
   intro vq10 h11 S12 q10 zh11
   obtain ⟨rfl, rfl, rfl⟩ := q10
   refine Ow.Go.nr (S' := []) (st' := [(.int 1)]) ?_
   refine Ow.ifF (pc' := 34) B e18_31 (by decide) ?_
   refine Ow.aloadN (pc' := 35) B e18_34 ?_
   refine Ow.getfield (pc' := 38) B e18_35 (w42 hw) Via.refl F.2.1 ?_
   refine Ow.iloadN (pc' := 39) B e18_38 ?_
   refine Ow.iload (pc' := 41) B e18_39 ?_
   refine Ow.Go.old (fun o13 => ?_)
   refine Ow.callStatic (pc' := 44) (W := 0) (k' := 2) (n' := 20) (argsL := [(.ref t), (.int (Int32.ofNat i)), (.int (Int32.ofNat (e' - i)))]) (rest := []) B e18_41 (w145 hw) (w146 hw) (w84 hw) (w147 hw) (gNsL hw G o13 oa F.2.2.1 (by omega) hf hC hN hL) pd15 ?_
   intro vq14 h15 S16 q14 zh15
   obtain ⟨r17, t18, k19, rfl, Kh15, f20, rfl⟩ := q14
   refine Ow.Go.nr (S' := []) (st' := [(.ref r17)]) ?_
   refine Ow.goto (pc' := 57) B e18_44 ?_
   exact Ow.retA (S' := []) (t := (.object "java/lang/String")) B e18_57 (⟨r17, t18, k19, rfl, ((Keep.refl _ []).trans Kh15 (fun _ q => nomatch q)), f20, rfl⟩)
 ·have hf : ¬ (i = 0 ∧ e' - i = cs.length) := fun q => c12 (by rw [q.1]; rfl)
  refine Ow.ifT (pc' := 22) B e18_12 (feq c12).2 ?_
  refine Ow.iloadN (pc' := 23) B e18_22 ?_
  refine Ow.iloadN (pc' := 24) B e18_23 ?_
  refine Ow.isub (pc' := 25) (z := (Int32.ofNat (e' - i))) (hz := (Ow.nsub hi)) B e18_24 ?_
  refine Ow.istore (pc' := 27) (Ls' := #[.val (.ref b), .val (.int (Int32.ofNat i)), .val (.int (Int32.ofNat e')), .val (.int (Int32.ofNat cs.length)), .val (.int (Int32.ofNat (e' - i)))]) B e18_25 ?_
  refine Ow.aloadN (pc' := 28) B e18_27 ?_
  refine Ow.Go.old (fun o21 => ?_)
  refine Ow.callVirtual (pc' := 31) (W := 0) (k' := 0) (n' := 0) (argsL := []) (rest := []) (K := "java/lang/String") B e18_28 (w77 hw) (w78 hw) (w80 hw) (w80 hw) (w79 hw) (w17 hw) (w81 hw) F.1 (con_isLatin1_4 hw G (pa0 := b) o21 oc) pd7 ?_
  intro vq22 h23 S24 q22 zh23
  obtain ⟨rfl, rfl, rfl⟩ := q22
  refine Ow.Go.nr (S' := []) (st' := [(.int 1)]) ?_
  refine Ow.ifF (pc' := 34) B e18_31 (by decide) ?_
  refine Ow.aloadN (pc' := 35) B e18_34 ?_
  refine Ow.getfield (pc' := 38) B e18_35 (w42 hw) Via.refl F.2.1 ?_
  refine Ow.iloadN (pc' := 39) B e18_38 ?_
  refine Ow.iload (pc' := 41) B e18_39 ?_
  refine Ow.Go.old (fun o25 => ?_)
  refine Ow.callStatic (pc' := 44) (W := 0) (k' := 2) (n' := 20) (argsL := [(.ref t), (.int (Int32.ofNat i)), (.int (Int32.ofNat (e' - i)))]) (rest := []) B e18_41 (w145 hw) (w146 hw) (w84 hw) (w147 hw) (gNsL hw G o25 oa F.2.2.1 (by omega) hf hC hN hL) pd15 ?_
  intro vq26 h27 S28 q26 zh27
  obtain ⟨r29, t30, k31, rfl, Kh27, f32, rfl⟩ := q26
  refine Ow.Go.nr (S' := []) (st' := [(.ref r29)]) ?_
  refine Ow.goto (pc' := 57) B e18_44 ?_
  exact Ow.retA (S' := []) (t := (.object "java/lang/String")) B e18_57 (⟨r29, t30, k31, rfl, ((Keep.refl _ []).trans Kh27 (fun _ q => nomatch q)), f32, rfl⟩)
set_option maxRecDepth 65536 in
set_option maxHeartbeats 40000000 in
theorem gMn (hw : Hw a0 Z) (G : Ow.Glo Z cz sf) {h0 : Heap} (O0 : Old Z n0 h0) {m' n : Nat} (hm : m' ≤ 128) (hn : n ≤ 128) :
    Ow.Con l Z EL1 n0 my12 jdk_29_method_69_code 2 (Option.some Jvm.ClassFile.FieldType.int) [] ({ frames := 0, cells := 0, slots := 0, locals := 0 } : Room) #[(.int (Int32.ofNat m')), (.int (Int32.ofNat n))] [] h0 (fun v h S' => ∃ c : Nat, v = some (.int (Int32.ofNat c)) ∧ c = min m' n ∧ h = h0 ∧ S' = []) := by
 refine Ow.Con.enter (Ls := #[.val (.int (Int32.ofNat m')), .val (.int (Int32.ofNat n))]) (by decide +kernel) O0 (hEW hw) (hSA hw) ?_
 intro p e s m below meth c B
 have z0 := Ow.old_le O0
 refine Ow.iloadN (pc' := 1) B e12_0 ?_
 refine Ow.iloadN (pc' := 2) B e12_1 ?_
 by_cases cM : (Int32.ofNat n) < (Int32.ofNat m')
 ·refine Ow.icmpT (pc' := 9) B e12_2 (tlt cM).2.2.1 ?_
  refine Ow.iloadN (pc' := 10) B e12_9 ?_
  exact Ow.retI (S' := []) (t := .int) B e12_10 (⟨n, rfl, by have := Ow.nlm cM; omega, rfl, rfl⟩)
 ·refine Ow.icmpF (pc' := 5) B e12_2 (flt cM).2.2.1 ?_
  refine Ow.iloadN (pc' := 6) B e12_5 ?_
  refine Ow.goto (pc' := 10) B e12_6 ?_
  exact Ow.retI (S' := []) (t := .int) B e12_10 (⟨m', rfl, by have := Ow.nlmF cM; omega, rfl, rfl⟩)
set_option maxRecDepth 65536 in
set_option maxHeartbeats 40000000 in
theorem gCore (hw : Hw a0 Z) (G : Ow.Glo Z cz sf) {h0 : Heap} (O0 : Old Z n0 h0) {j nk ns : Nat} {raw kinds : Int64} (hj : j < nk) (hk : nk ≤ 8) (hs : ns ≤ 1) :
    Ow.Con l Z EL1 n0 my21 method_4_code 10 (Option.some Jvm.ClassFile.FieldType.char) [] ({ frames := 0, cells := 0, slots := 0, locals := 0 } : Room) #[(.int (Int32.ofNat j)), (.int (Int32.ofNat nk)), (.int (Int32.ofNat ns)), (.long raw), (.long kinds)] [] h0 (fun v h S' => ∃ y : Int32, v = some (.int y) ∧ h = h0 ∧ ((¬ y < (0 : Int32) ∧ ¬ (255 : Int32) < y) ∧ (j = 0 → y ≠ 32) ∧ (j + 1 = nk → y ≠ 32 ∧ (ns = 0 → ¬ sepP y))) ∧ S' = []) := by
 refine Ow.Con.enter (Ls := #[.val (.int (Int32.ofNat j)), .val (.int (Int32.ofNat nk)), .val (.int (Int32.ofNat ns)), .val (.long raw), .second, .val (.long kinds), .second, .unset, .unset, .unset]) (plainFor_of_name pn5) O0 (hEW hw) (hSA hw) ?_
 intro p e s m below meth c B
 have z0 := Ow.old_le O0
 refine Ow.lload (pc' := 2) B e21_0 ?_
 refine Ow.bipush (pc' := 4) (x := 8) B e21_2 ?_
 refine Ow.iloadN (pc' := 5) B e21_4 ?_
 refine Ow.imul (pc' := 6) (z := ((8 : Int32) * (Int32.ofNat j))) B e21_5 ?_
 refine Ow.lushr (pc' := 7) (z := (Jvm.Free.XT.ushrL kinds ((8 : Int32) * (Int32.ofNat j)))) B e21_6 ?_
 refine Ow.l2i (pc' := 8) (z := (Jvm.Free.XT.ushrL kinds ((8 : Int32) * (Int32.ofNat j))).toInt32) B e21_7 ?_
 refine Ow.bipush (pc' := 10) (x := 7) B e21_8 ?_
 obtain ⟨kd, hkd⟩ : ∃ z : Int32, ((Jvm.Free.XT.ushrL kinds ((8 : Int32) * (Int32.ofNat j))).toInt32 &&& (7 : Int32)) = z := ⟨_, rfl⟩
 refine Ow.iand (pc' := 11) (z := kd) (hz := hkd) B e21_10 ?_
 refine Ow.istore (pc' := 13) (Ls' := #[.val (.int (Int32.ofNat j)), .val (.int (Int32.ofNat nk)), .val (.int (Int32.ofNat ns)), .val (.long raw), .second, .val (.long kinds), .second, .val (.int kd), .unset, .unset]) B e21_11 ?_
 refine Ow.lloadN (pc' := 14) B e21_13 ?_
 refine Ow.bipush (pc' := 16) (x := 8) B e21_14 ?_
 refine Ow.iloadN (pc' := 17) B e21_16 ?_
 refine Ow.imul (pc' := 18) (z := ((8 : Int32) * (Int32.ofNat j))) B e21_17 ?_
 refine Ow.lushr (pc' := 19) (z := (Jvm.Free.XT.ushrL raw ((8 : Int32) * (Int32.ofNat j)))) B e21_18 ?_
 refine Ow.l2i (pc' := 20) (z := (Jvm.Free.XT.ushrL raw ((8 : Int32) * (Int32.ofNat j))).toInt32) B e21_19 ?_
 refine Ow.sipush (pc' := 23) (x := 255) B e21_20 ?_
 obtain ⟨rc, hrc⟩ : ∃ z : Int32, ((Jvm.Free.XT.ushrL raw ((8 : Int32) * (Int32.ofNat j))).toInt32 &&& (255 : Int32)) = z := ⟨_, rfl⟩
 have brc := own_c255 (Jvm.Free.XT.ushrL raw ((8 : Int32) * (Int32.ofNat j))).toInt32
 rw [hrc] at brc
 refine Ow.iand (pc' := 24) (z := rc) (hz := hrc) B e21_23 ?_
 refine Ow.istore (pc' := 26) (Ls' := #[.val (.int (Int32.ofNat j)), .val (.int (Int32.ofNat nk)), .val (.int (Int32.ofNat ns)), .val (.long raw), .second, .val (.long kinds), .second, .val (.int kd), .val (.int rc), .unset]) B e21_24 ?_
 refine Ow.Go.join (α := { y : Int32 // ¬ y < (0 : Int32) ∧ ¬ (255 : Int32) < y }) (pc1 := 95) (fun b => #[.val (.int (Int32.ofNat j)), .val (.int (Int32.ofNat nk)), .val (.int (Int32.ofNat ns)), .val (.long raw), .second, .val (.long kinds), .second, .val (.int kd), .val (.int rc), .val (.int b.1)]) (fun _ => []) ?_ ?_
 ·intro ⟨b1, hb1⟩
  dsimp only
  refine Ow.Go.join (α := { y : Int32 // (¬ y < (0 : Int32) ∧ ¬ (255 : Int32) < y) ∧ (j = 0 → y ≠ 32) }) (pc1 := 110) (fun b => #[.val (.int (Int32.ofNat j)), .val (.int (Int32.ofNat nk)), .val (.int (Int32.ofNat ns)), .val (.long raw), .second, .val (.long kinds), .second, .val (.int kd), .val (.int rc), .val (.int b.1)]) (fun _ => []) ?_ ?_
  ·intro ⟨b2, hb2⟩
   dsimp only
   refine Ow.Go.join (α := { y : Int32 // (¬ y < (0 : Int32) ∧ ¬ (255 : Int32) < y) ∧ (j = 0 → y ≠ 32) ∧ (j + 1 = nk → y ≠ 32 ∧ (ns = 0 → ¬ sepP y)) }) (pc1 := 153) (fun b => #[.val (.int (Int32.ofNat j)), .val (.int (Int32.ofNat nk)), .val (.int (Int32.ofNat ns)), .val (.long raw), .second, .val (.long kinds), .second, .val (.int kd), .val (.int rc), .val (.int b.1)]) (fun _ => []) ?_ ?_
   ·intro ⟨b3, hb3⟩
    dsimp only
    refine Ow.iload (pc' := 155) B e21_153 ?_
    exact Ow.retI (S' := []) (t := .char) (hnn := (Ow.cnarrow (Ow.nar_id hb3.1.1 hb3.1.2))) B e21_155 (⟨b3, rfl, rfl, hb3, rfl⟩)
   ·intro J4
    refine Ow.iloadN (pc' := 111) B e21_110 ?_
    refine Ow.iloadN (pc' := 112) B e21_111 ?_
    refine Ow.iconst (pc' := 113) (x := 1) B e21_112 ?_
    refine Ow.isub (pc' := 114) (z := (Int32.ofNat (nk - 1))) (hz := (Ow.nsub (i := 1) (by omega))) B e21_113 ?_
    by_cases c114 : (Int32.ofNat j) = (Int32.ofNat (nk - 1))
    ·refine Ow.icmpF (pc' := 117) B e21_114 (teq c114).2 ?_
     refine Ow.iload (pc' := 119) B e21_117 ?_
     refine Ow.bipush (pc' := 121) (x := 32) B e21_119 ?_
     by_cases c121 : b2 = (32 : Int32)
     ·refine Ow.icmpT (pc' := 149) B e21_121 (teq c121).1 ?_
      refine Ow.bipush (pc' := 151) (x := 121) B e21_149 ?_
      refine Ow.istore (pc' := 153) (Ls' := #[.val (.int (Int32.ofNat j)), .val (.int (Int32.ofNat nk)), .val (.int (Int32.ofNat ns)), .val (.long raw), .second, .val (.long kinds), .second, .val (.int kd), .val (.int rc), .val (.int 121)]) B e21_151 ?_
      exact J4 ⟨(121 : Int32), ⟨by decide, by decide⟩, fun _ => by decide, fun _ => ⟨by decide, fun _ => by unfold sepP; decide⟩⟩
     ·refine Ow.icmpF (pc' := 124) B e21_121 (feq c121).1 ?_
      refine Ow.iloadN (pc' := 125) B e21_124 ?_
      by_cases c125 : (Int32.ofNat ns) = (0 : Int32)
      ·refine Ow.ifF (pc' := 128) B e21_125 (teq c125).2 ?_
       refine Ow.iload (pc' := 130) B e21_128 ?_
       refine Ow.bipush (pc' := 132) (x := 59) B e21_130 ?_
       by_cases c132 : b2 = (59 : Int32)
       ·refine Ow.icmpT (pc' := 149) B e21_132 (teq c132).1 ?_
        refine Ow.bipush (pc' := 151) (x := 121) B e21_149 ?_
        refine Ow.istore (pc' := 153) (Ls' := #[.val (.int (Int32.ofNat j)), .val (.int (Int32.ofNat nk)), .val (.int (Int32.ofNat ns)), .val (.long raw), .second, .val (.long kinds), .second, .val (.int kd), .val (.int rc), .val (.int 121)]) B e21_151 ?_
        exact J4 ⟨(121 : Int32), ⟨by decide, by decide⟩, fun _ => by decide, fun _ => ⟨by decide, fun _ => by unfold sepP; decide⟩⟩
       ·refine Ow.icmpF (pc' := 135) B e21_132 (feq c132).1 ?_
        refine Ow.iload (pc' := 137) B e21_135 ?_
        refine Ow.bipush (pc' := 139) (x := 44) B e21_137 ?_
        by_cases c139 : b2 = (44 : Int32)
        ·refine Ow.icmpT (pc' := 149) B e21_139 (teq c139).1 ?_
         refine Ow.bipush (pc' := 151) (x := 121) B e21_149 ?_
         refine Ow.istore (pc' := 153) (Ls' := #[.val (.int (Int32.ofNat j)), .val (.int (Int32.ofNat nk)), .val (.int (Int32.ofNat ns)), .val (.long raw), .second, .val (.long kinds), .second, .val (.int kd), .val (.int rc), .val (.int 121)]) B e21_151 ?_
         exact J4 ⟨(121 : Int32), ⟨by decide, by decide⟩, fun _ => by decide, fun _ => ⟨by decide, fun _ => by unfold sepP; decide⟩⟩
        ·refine Ow.icmpF (pc' := 142) B e21_139 (feq c139).1 ?_
         refine Ow.iload (pc' := 144) B e21_142 ?_
         refine Ow.bipush (pc' := 146) (x := 58) B e21_144 ?_
         by_cases c146 : b2 = (58 : Int32)
         ·refine Ow.icmpF (pc' := 149) B e21_146 (teq c146).2 ?_
          refine Ow.bipush (pc' := 151) (x := 121) B e21_149 ?_
          refine Ow.istore (pc' := 153) (Ls' := #[.val (.int (Int32.ofNat j)), .val (.int (Int32.ofNat nk)), .val (.int (Int32.ofNat ns)), .val (.long raw), .second, .val (.long kinds), .second, .val (.int kd), .val (.int rc), .val (.int 121)]) B e21_151 ?_
          exact J4 ⟨(121 : Int32), ⟨by decide, by decide⟩, fun _ => by decide, fun _ => ⟨by decide, fun _ => by unfold sepP; decide⟩⟩
         ·refine Ow.icmpT (pc' := 153) B e21_146 (feq c146).2 ?_
          exact J4 ⟨b2, hb2.1, hb2.2, fun _ => ⟨c121, fun _ q => q.elim c132 (fun q => q.elim c139 c146)⟩⟩
      ·refine Ow.ifT (pc' := 153) B e21_125 (feq c125).2 ?_
       exact J4 ⟨b2, hb2.1, hb2.2, fun _ => ⟨c121, fun q => absurd (by rw [q]; rfl) c125⟩⟩
    ·refine Ow.icmpT (pc' := 153) B e21_114 (feq c114).2 ?_
     exact J4 ⟨b2, hb2.1, hb2.2, fun q => absurd (by rw [show j = nk - 1 from by omega]) c114⟩
  ·intro J5
   refine Ow.iloadN (pc' := 96) B e21_95 ?_
   by_cases c96 : (Int32.ofNat j) = (0 : Int32)
   ·refine Ow.ifF (pc' := 99) B e21_96 (teq c96).2 ?_
    refine Ow.iload (pc' := 101) B e21_99 ?_
    refine Ow.bipush (pc' := 103) (x := 32) B e21_101 ?_
    by_cases c103 : b1 = (32 : Int32)
    ·refine Ow.icmpF (pc' := 106) B e21_103 (teq c103).2 ?_
     refine Ow.bipush (pc' := 108) (x := 120) B e21_106 ?_
     refine Ow.istore (pc' := 110) (Ls' := #[.val (.int (Int32.ofNat j)), .val (.int (Int32.ofNat nk)), .val (.int (Int32.ofNat ns)), .val (.long raw), .second, .val (.long kinds), .second, .val (.int kd), .val (.int rc), .val (.int 120)]) B e21_108 ?_
     exact J5 ⟨(120 : Int32), ⟨by decide, by decide⟩, fun _ => by decide⟩
    ·refine Ow.icmpT (pc' := 110) B e21_103 (feq c103).2 ?_
     exact J5 ⟨b1, ⟨hb1.1, hb1.2⟩, fun _ => c103⟩
   ·refine Ow.ifT (pc' := 110) B e21_96 (feq c96).2 ?_
    exact J5 ⟨b1, ⟨hb1.1, hb1.2⟩, fun q => absurd (by rw [q]; rfl) c96⟩
 ·intro J6
  refine Ow.iload (pc' := 28) B e21_26 ?_
  by_cases c7 : kd = (0 : Int32)
  ·refine Ow.ifF (pc' := 31) B e21_28 (teq c7).2 ?_
   refine Ow.bipush (pc' := 33) (x := 32) B e21_31 ?_
   refine Ow.istore (pc' := 35) (Ls' := #[.val (.int (Int32.ofNat j)), .val (.int (Int32.ofNat nk)), .val (.int (Int32.ofNat ns)), .val (.long raw), .second, .val (.long kinds), .second, .val (.int kd), .val (.int rc), .val (.int 32)]) B e21_33 ?_
   refine Ow.goto (pc' := 95) B e21_35 ?_
   exact J6 ⟨(32 : Int32), by decide, by decide⟩
  ·refine Ow.ifT (pc' := 38) B e21_28 (feq c7).2 ?_
   refine Ow.iload (pc' := 40) B e21_38 ?_
   refine Ow.iconst (pc' := 41) (x := 1) B e21_40 ?_
   by_cases c8 : kd = (1 : Int32)
   ·refine Ow.icmpF (pc' := 44) B e21_41 (teq c8).2 ?_
    refine Ow.bipush (pc' := 46) (x := 59) B e21_44 ?_
    refine Ow.istore (pc' := 48) (Ls' := #[.val (.int (Int32.ofNat j)), .val (.int (Int32.ofNat nk)), .val (.int (Int32.ofNat ns)), .val (.long raw), .second, .val (.long kinds), .second, .val (.int kd), .val (.int rc), .val (.int 59)]) B e21_46 ?_
    refine Ow.goto (pc' := 95) B e21_48 ?_
    exact J6 ⟨(59 : Int32), by decide, by decide⟩
   ·refine Ow.icmpT (pc' := 51) B e21_41 (feq c8).2 ?_
    refine Ow.iload (pc' := 53) B e21_51 ?_
    refine Ow.iconst (pc' := 54) (x := 2) B e21_53 ?_
    by_cases c9 : kd = (2 : Int32)
    ·refine Ow.icmpF (pc' := 57) B e21_54 (teq c9).2 ?_
     refine Ow.bipush (pc' := 59) (x := 44) B e21_57 ?_
     refine Ow.istore (pc' := 61) (Ls' := #[.val (.int (Int32.ofNat j)), .val (.int (Int32.ofNat nk)), .val (.int (Int32.ofNat ns)), .val (.long raw), .second, .val (.long kinds), .second, .val (.int kd), .val (.int rc), .val (.int 44)]) B e21_59 ?_
     refine Ow.goto (pc' := 95) B e21_61 ?_
     exact J6 ⟨(44 : Int32), by decide, by decide⟩
    ·refine Ow.icmpT (pc' := 64) B e21_54 (feq c9).2 ?_
     refine Ow.iload (pc' := 66) B e21_64 ?_
     refine Ow.iconst (pc' := 67) (x := 3) B e21_66 ?_
     by_cases c10 : kd = (3 : Int32)
     ·refine Ow.icmpF (pc' := 70) B e21_67 (teq c10).2 ?_
      refine Ow.bipush (pc' := 72) (x := 58) B e21_70 ?_
      refine Ow.istore (pc' := 74) (Ls' := #[.val (.int (Int32.ofNat j)), .val (.int (Int32.ofNat nk)), .val (.int (Int32.ofNat ns)), .val (.long raw), .second, .val (.long kinds), .second, .val (.int kd), .val (.int rc), .val (.int 58)]) B e21_72 ?_
      refine Ow.goto (pc' := 95) B e21_74 ?_
      exact J6 ⟨(58 : Int32), by decide, by decide⟩
     ·refine Ow.icmpT (pc' := 77) B e21_67 (feq c10).2 ?_
      refine Ow.iload (pc' := 79) B e21_77 ?_
      refine Ow.iconst (pc' := 80) (x := 4) B e21_79 ?_
      by_cases c11 : kd = (4 : Int32)
      ·refine Ow.icmpF (pc' := 83) B e21_80 (teq c11).2 ?_
       refine Ow.bipush (pc' := 85) (x := 46) B e21_83 ?_
       refine Ow.istore (pc' := 87) (Ls' := #[.val (.int (Int32.ofNat j)), .val (.int (Int32.ofNat nk)), .val (.int (Int32.ofNat ns)), .val (.long raw), .second, .val (.long kinds), .second, .val (.int kd), .val (.int rc), .val (.int 46)]) B e21_85 ?_
       refine Ow.goto (pc' := 95) B e21_87 ?_
       exact J6 ⟨(46 : Int32), by decide, by decide⟩
      ·refine Ow.icmpT (pc' := 90) B e21_80 (feq c11).2 ?_
       refine Ow.iload (pc' := 92) B e21_90 ?_
       refine Ow.i2c (pc' := 93) (z := rc) (hz := (Ow.c_id (brc.1) (brc.2))) B e21_92 ?_
       refine Ow.istore (pc' := 95) (Ls' := #[.val (.int (Int32.ofNat j)), .val (.int (Int32.ofNat nk)), .val (.int (Int32.ofNat ns)), .val (.long raw), .second, .val (.long kinds), .second, .val (.int kd), .val (.int rc), .val (.int rc)]) B e21_93 ?_
       exact J6 ⟨rc, brc.1, brc.2⟩
set_option maxRecDepth 65536 in
set_option maxHeartbeats 40000000 in
theorem gPos (hw : Hw a0 Z) (G : Ow.Glo Z cz sf) {h0 : Heap} (O0 : Old Z n0 h0) {np na nk nb ns : Nat} {sep : Int32} {raw kinds : Int64} (hp : np < 8) (hsum : na + nk + nb + ns ≤ 8) (hs : ns ≤ 1) (hsep : ¬ sep < (0 : Int32) ∧ ¬ (255 : Int32) < sep) :
    Ow.Con l Z EL1 n0 my22 method_3_code 10 (Option.some Jvm.ClassFile.FieldType.char) [] ({ frames := 1, cells := 0, slots := 0, locals := 21 } : Room) #[(.int (Int32.ofNat np)), (.int (Int32.ofNat na)), (.int (Int32.ofNat nk)), (.int (Int32.ofNat nb)), (.int (Int32.ofNat ns)), (.int sep), (.long raw), (.long kinds)] [] h0 (fun v h S' => ∃ y : Int32, v = some (.int y) ∧ h = h0 ∧ PosP np na nk nb ns sep y ∧ S' = []) := by
 refine Ow.Con.enter (Ls := #[.val (.int (Int32.ofNat np)), .val (.int (Int32.ofNat na)), .val (.int (Int32.ofNat nk)), .val (.int (Int32.ofNat nb)), .val (.int (Int32.ofNat ns)), .val (.int sep), .val (.long raw), .second, .val (.long kinds), .second]) (plainFor_of_name pn5) O0 (hEW hw) (hSA hw) ?_
 intro p e s m below meth c B
 have z0 := Ow.old_le O0
 refine Ow.iloadN (pc' := 1) B e22_0 ?_
 refine Ow.iloadN (pc' := 2) B e22_1 ?_
 by_cases c2 : (Int32.ofNat np) < (Int32.ofNat na)
 ·have n2 := Ow.nlm c2
  refine Ow.icmpF (pc' := 5) B e22_2 (tlt c2).2.1 ?_
  refine Ow.bipush (pc' := 7) (x := 32) B e22_5 ?_
  exact Ow.retI (S' := []) (t := .char) B e22_7 (⟨(32 : Int32), rfl, rfl, ⟨⟨by decide, by decide⟩, fun _ => rfl, fun q0 q1 => absurd (show False by omega) id, fun q0 q1 => absurd (show False by omega) id, fun q0 q1 => absurd (show False by omega) id, fun q0 => absurd (show False by omega) id⟩, rfl⟩)
 ·have n2 := Ow.nlmF c2
  refine Ow.icmpT (pc' := 8) B e22_2 (flt c2).2.1 ?_
  refine Ow.iloadN (pc' := 9) B e22_8 ?_
  refine Ow.iloadN (pc' := 10) B e22_9 ?_
  refine Ow.iloadN (pc' := 11) B e22_10 ?_
  refine Ow.iadd (pc' := 12) (z := (Int32.ofNat (na + nk))) (hz := (Ow.nadd _ _)) B e22_11 ?_
  by_cases c12 : (Int32.ofNat np) < (Int32.ofNat (na + nk))
  ·have n12 := Ow.nlm c12
   refine Ow.icmpF (pc' := 15) B e22_12 (tlt c12).2.1 ?_
   refine Ow.iloadN (pc' := 16) B e22_15 ?_
   refine Ow.iloadN (pc' := 17) B e22_16 ?_
   refine Ow.isub (pc' := 18) (z := (Int32.ofNat (np - na))) (hz := (Ow.nsub (by omega))) B e22_17 ?_
   refine Ow.iloadN (pc' := 19) B e22_18 ?_
   refine Ow.iload (pc' := 21) B e22_19 ?_
   refine Ow.lload (pc' := 23) B e22_21 ?_
   refine Ow.lload (pc' := 25) B e22_23 ?_
   refine Ow.Go.old (fun o1 => ?_)
   refine Ow.callStatic (pc' := 28) (W := 0) (k' := 0) (n' := 0) (argsL := [(.int (Int32.ofNat (np - na))), (.int (Int32.ofNat nk)), (.int (Int32.ofNat ns)), (.long raw), (.long kinds)]) (rest := []) B e22_25 (w9 hw) (w10 hw) (w7 hw) (w11 hw) (gCore hw G (j := (np - na)) (nk := nk) (ns := ns) o1 (by omega) (by omega) (by omega)) pd16 ?_
   intro vq2 h3 S4 q2 zh3
   obtain ⟨y5, rfl, rfl, hy5, rfl⟩ := q2
   refine Ow.Go.nr (S' := []) (st' := [(.int y5)]) ?_
   exact Ow.retI (S' := []) (t := .char) (hnn := (Ow.cnarrow (Ow.nar_id hy5.1.1 hy5.1.2))) B e22_28 (⟨y5, rfl, rfl, ⟨⟨hy5.1.1, hy5.1.2⟩, fun q0 => absurd (show False by omega) id, fun _ _ => ⟨fun q => hy5.2.1 (by omega), fun q => hy5.2.2 (by omega)⟩, fun q0 q1 => absurd (show False by omega) id, fun q0 q1 => absurd (show False by omega) id, fun q0 => absurd (show False by omega) id⟩, rfl⟩)
  ·have n12 := Ow.nlmF c12
   refine Ow.icmpT (pc' := 29) B e22_12 (flt c12).2.1 ?_
   refine Ow.iloadN (pc' := 30) B e22_29 ?_
   refine Ow.iloadN (pc' := 31) B e22_30 ?_
   refine Ow.iloadN (pc' := 32) B e22_31 ?_
   refine Ow.iadd (pc' := 33) (z := (Int32.ofNat (na + nk))) (hz := (Ow.nadd _ _)) B e22_32 ?_
   refine Ow.iloadN (pc' := 34) B e22_33 ?_
   refine Ow.iadd (pc' := 35) (z := (Int32.ofNat (na + nk + nb))) (hz := (Ow.nadd _ _)) B e22_34 ?_
   by_cases c35 : (Int32.ofNat np) < (Int32.ofNat (na + nk + nb))
   ·have n35 := Ow.nlm c35
    refine Ow.icmpF (pc' := 38) B e22_35 (tlt c35).2.1 ?_
    refine Ow.bipush (pc' := 40) (x := 32) B e22_38 ?_
    exact Ow.retI (S' := []) (t := .char) B e22_40 (⟨(32 : Int32), rfl, rfl, ⟨⟨by decide, by decide⟩, fun q0 => absurd (show False by omega) id, fun q0 q1 => absurd (show False by omega) id, fun _ _ => rfl, fun q0 q1 => absurd (show False by omega) id, fun q0 => absurd (show False by omega) id⟩, rfl⟩)
   ·have n35 := Ow.nlmF c35
    refine Ow.icmpT (pc' := 41) B e22_35 (flt c35).2.1 ?_
    refine Ow.iloadN (pc' := 42) B e22_41 ?_
    refine Ow.iloadN (pc' := 43) B e22_42 ?_
    refine Ow.iloadN (pc' := 44) B e22_43 ?_
    refine Ow.iadd (pc' := 45) (z := (Int32.ofNat (na + nk))) (hz := (Ow.nadd _ _)) B e22_44 ?_
    refine Ow.iloadN (pc' := 46) B e22_45 ?_
    refine Ow.iadd (pc' := 47) (z := (Int32.ofNat (na + nk + nb))) (hz := (Ow.nadd _ _)) B e22_46 ?_
    refine Ow.iload (pc' := 49) B e22_47 ?_
    refine Ow.iadd (pc' := 50) (z := (Int32.ofNat (na + nk + nb + ns))) (hz := (Ow.nadd _ _)) B e22_49 ?_
    by_cases c50 : (Int32.ofNat np) < (Int32.ofNat (na + nk + nb + ns))
    ·have n50 := Ow.nlm c50
     refine Ow.icmpF (pc' := 53) B e22_50 (tlt c50).2.1 ?_
     refine Ow.iload (pc' := 55) B e22_53 ?_
     exact Ow.retI (S' := []) (t := .char) (hnn := (Ow.cnarrow (Ow.nar_id (hsep.1) (hsep.2)))) B e22_55 (⟨sep, rfl, rfl, ⟨⟨hsep.1, hsep.2⟩, fun q0 => absurd (show False by omega) id, fun q0 q1 => absurd (show False by omega) id, fun q0 q1 => absurd (show False by omega) id, fun _ _ => rfl, fun q0 => absurd (show False by omega) id⟩, rfl⟩)
    ·have n50 := Ow.nlmF c50
     refine Ow.icmpT (pc' := 56) B e22_50 (flt c50).2.1 ?_
     refine Ow.bipush (pc' := 58) (x := 32) B e22_56 ?_
     exact Ow.retI (S' := []) (t := .char) B e22_58 (⟨(32 : Int32), rfl, rfl, ⟨⟨by decide, by decide⟩, fun q0 => absurd (show False by omega) id, fun q0 q1 => absurd (show False by omega) id, fun q0 q1 => absurd (show False by omega) id, fun q0 q1 => absurd (show False by omega) id, fun _ => rfl⟩, rfl⟩)
set_option maxRecDepth 65536 in
set_option maxHeartbeats 40000000 in
theorem gEbs (hw : Hw a0 Z) (G : Ow.Glo Z cz sf) {h0 : Heap} (O0 : Old Z n0 h0) {q b t : Nat} {kt : ClassId} {cs : List Int32} (E : Exa Z h0 q "com/example/elsewhere/elsewhere/Field$Subfield") (V : Fld Z h0 q "com/example/elsewhere/elsewhere/Field$Subfield" "value" "Ljava/lang/String;" (.ref b)) (F : Ow.Chs Z h0 b t kt cs) (hL : Ow.Lat cs) (hC : cs.length ≤ 8) (hN : cs.length ≤ 64) {u e' : Nat} (hu : u ≤ e') (he : e' ≤ cs.length) :
    Ow.Con l Z EL1 n0 my23 prog_11_method_5_code 4 (Option.some Jvm.ClassFile.FieldType.int) [] ({ frames := 4, cells := 0, slots := 0, locals := 53 } : Room) #[(.ref q), (.int (Int32.ofNat u)), (.int (Int32.ofNat e'))] [] h0 (fun v h S' => ∃ x : Nat, v = some (.int (Int32.ofNat x)) ∧ h = h0 ∧ EbsP cs u e' x ∧ S' = []) := by
 refine Ow.Con.enter (Ls := #[.val (.ref q), .val (.int (Int32.ofNat u)), .val (.int (Int32.ofNat e')), .unset]) (plainFor_of_name pn6) O0 (hEW hw) (hSA hw) ?_
 intro p e s m below meth c B
 have z0 := Ow.old_le O0
 have lb : (b : Nat) < h0.size := F.lt
 have lt : (t : Nat) < h0.size := F.ltt
 have lq : (q : Nat) < h0.size := E.lt
 refine Ow.iloadN (pc' := 1) B e23_0 ?_
 refine Ow.istoreN (pc' := 2) (Ls' := #[.val (.ref q), .val (.int (Int32.ofNat u)), .val (.int (Int32.ofNat e')), .val (.int (Int32.ofNat e'))]) B e23_1 ?_
 refine Ow.Go.loop (fun i (x : Nat) h => x = u + i ∧ x ≤ e' ∧ (∀ j, x ≤ j → j < e' → cs[j]? = some 32) ∧ h0 = h) (fun x => #[.val (.ref q), .val (.int (Int32.ofNat u)), .val (.int (Int32.ofNat e')), .val (.int (Int32.ofNat x))]) ?_ (e' - u) e' ⟨by omega, by omega, fun j q1 q2 => absurd q2 (by omega), rfl⟩
 intro i x h ⟨hx, hE, hA, hh⟩ ih
 subst hh
 dsimp only
 refine Ow.iloadN (pc' := 3) B e23_2 ?_
 refine Ow.iloadN (pc' := 4) B e23_3 ?_
 by_cases c4 : (Int32.ofNat u) < (Int32.ofNat x)
 ·have n4 := Ow.nlm c4
  refine Ow.icmpF (pc' := 7) B e23_4 (tlt c4).2.2.2 ?_
  refine Ow.aloadN (pc' := 8) B e23_7 ?_
  refine Ow.getfield (pc' := 11) B e23_8 (w55 hw) Via.refl V ?_
  refine Ow.iloadN (pc' := 12) B e23_11 ?_
  refine Ow.iconst (pc' := 13) (x := 1) B e23_12 ?_
  refine Ow.isub (pc' := 14) (z := (Int32.ofNat (x - 1))) (hz := (Ow.nsub (i := 1) (by omega))) B e23_13 ?_
  refine Ow.Go.old (fun o3 => ?_)
  obtain ⟨y1, e2⟩ : ∃ y, (cs)[(x - 1)]? = some y := ⟨_, List.getElem?_eq_getElem (by omega)⟩
  refine Ow.callVirtual (pc' := 17) (W := 0) (k' := 0) (n' := 0) (argsL := [(.int (Int32.ofNat (x - 1)))]) (rest := []) (K := "java/lang/String") B e23_14 (w72 hw) (w73 hw) (w75 hw) (w75 hw) (w74 hw) (w17 hw) (w76 hw) (F).1 (gCha hw G (j := (x - 1)) (x := y1) o3 F e2 (by omega) hL) pd17 ?_
  intro vq4 h5 S6 q4 zh5
  obtain ⟨rfl, rfl, rfl⟩ := q4
  refine Ow.Go.nr (S' := []) (st' := [(.int y1)]) ?_
  refine Ow.bipush (pc' := 19) (x := 32) B e23_17 ?_
  by_cases c19 : y1 = (32 : Int32)
  ·refine Ow.icmpF (pc' := 22) B e23_19 (teq c19).2 ?_
   refine Ow.iinc (pc' := 25) (y := (Int32.ofNat (x - 1))) (Ls' := #[.val (.ref q), .val (.int (Int32.ofNat u)), .val (.int (Int32.ofNat e')), .val (.int (Int32.ofNat (x - 1)))]) (hy := ((Ow.npred (by omega))).symm) B e23_22 ?_
   refine Ow.goto (pc' := 2) B e23_25 ?_
   exact ih (i - 1) (x - 1) _ (by omega) ⟨by omega, by omega, (fun j q1 q2 => if q : j = x - 1 then (by rw [q, e2, c19]) else hA j (by omega) q2), rfl⟩
  ·refine Ow.icmpT (pc' := 28) B e23_19 (feq c19).2 ?_
   refine Ow.iloadN (pc' := 29) B e23_28 ?_
   exact Ow.retI (S' := []) (t := .int) B e23_29 (⟨x, rfl, rfl, ⟨by omega, hE, hA, fun _ q => c19 (Option.some.inj (e2.symm.trans q))⟩, rfl⟩)
 ·have n4 := Ow.nlmF c4
  refine Ow.icmpT (pc' := 28) B e23_4 (flt c4).2.2.2 ?_
  refine Ow.iloadN (pc' := 29) B e23_28 ?_
  exact Ow.retI (S' := []) (t := .int) B e23_29 (⟨x, rfl, rfl, ⟨by omega, hE, hA, fun q => absurd q (by omega)⟩, rfl⟩)
set_option maxRecDepth 65536 in
set_option maxHeartbeats 40000000 in
theorem con_length_9 (hw : Hw a0 Z) (G : Ow.Glo Z cz sf) {pa0 : Nat} {pa1 : Nat} {pk0 : ClassId} {h0 : Heap} (O0 : Old Z n0 h0) (hf0 : Exa Z h0 pa0 "java/lang/String") (hf1 : Fld Z h0 pa0 "java/lang/String" "coder" "B" (.int 0)) (hf2 : Fld Z h0 pa0 "java/lang/String" "value" "[B" (.ref pa1)) (hf3 : Arv Z h0 pa1 pk0 .byte (3 : Int32) [(.int 59), (.int 44), (.int 58)] (.int 0)) :
    Ow.Con l Z EL1 n0 my6 jdk_42_method_54_code 1 (Option.some Jvm.ClassFile.FieldType.int) [] ({ frames := 1, cells := 0, slots := 0, locals := 13 } : Room) #[(.ref pa0)] [] h0 (fun v h S' => (v = some (.int 3) ∧ h = h0 ∧ S' = [])) := by
 refine Ow.Con.enter (Ls := #[.val (.ref pa0)]) (plainFor_of_name pn1) O0 (hEW hw) (hSA hw) ?_
 intro p e s m below meth c B
 have z0 := Ow.old_le O0
 have lpa0 : (pa0 : Nat) < h0.size := hf0.lt
 have lpa1 : (pa1 : Nat) < h0.size := hf3.lt
 refine Ow.aloadN (pc' := 1) B e5_0 ?_
 refine Ow.getfield (pc' := 4) B e5_1 (w42 hw) Via.refl hf2 ?_
 refine Ow.arrlen (pc' := 5) B e5_4 hf3 ?_
 refine Ow.aloadN (pc' := 6) B e5_5 ?_
 refine Ow.Go.old (fun o1 => ?_)
 refine Ow.callVirtual (pc' := 9) (W := 1) (k' := 0) (n' := 0) (argsL := []) (rest := [(.int 3)]) (K := "java/lang/String") B e5_6 (w67 hw) (w68 hw) (w70 hw) (w70 hw) (w69 hw) (w17 hw) (w71 hw) hf0 (con_coder_1 hw G (pa0 := pa0) o1 hf1) pd4 ?_
 intro vq2 h3 S4 q2 zh3
 obtain ⟨rfl, rfl, rfl⟩ := q2
 refine Ow.Go.nr (S' := []) (st' := [(.int 0), (.int 3)]) ?_
 refine Ow.ishr (pc' := 10) (z := 3) B e5_9 ?_
 exact Ow.retI (S' := []) (t := .int) B e5_10 (⟨rfl, rfl, rfl⟩)
set_option maxRecDepth 65536 in
set_option maxHeartbeats 40000000 in
theorem con_canEncode_10 (hw : Hw a0 Z) (G : Ow.Glo Z cz sf) {px0 : Int32} {h0 : Heap} (O0 : Old Z n0 h0) (hk0 : ¬ (px0 < (0 : Int32))) (hk1 : ¬ ((255 : Int32) < px0)) :
    Ow.Con l Z EL1 n0 my24 jdk_43_method_4_code 1 (Option.some Jvm.ClassFile.FieldType.boolean) [] ({ frames := 0, cells := 0, slots := 0, locals := 0 } : Room) #[(.int px0)] [] h0 (fun v h S' => (v = some (.int 1) ∧ h = h0 ∧ S' = [])) := by
 refine Ow.Con.enter (Ls := #[.val (.int px0)]) (plainFor_of_name pn2) O0 (hEW hw) (hSA hw) ?_
 intro p e s m below meth c B
 have z0 := Ow.old_le O0
 refine Ow.iloadN (pc' := 1) B e28_0 ?_
 refine Ow.ifF (pc' := 4) B e28_1 (flt (hk0)).1 ?_
 refine Ow.iloadN (pc' := 5) B e28_4 ?_
 refine Ow.sipush (pc' := 8) (x := 255) B e28_5 ?_
 refine Ow.icmpF (pc' := 11) B e28_8 (flt (hk1)).2.2.1 ?_
 refine Ow.iconst (pc' := 12) (x := 1) B e28_11 ?_
 refine Ow.goto (pc' := 16) B e28_12 ?_
 exact Ow.retI (S' := []) (t := .boolean) B e28_16 (⟨rfl, rfl, rfl⟩)
set_option maxRecDepth 65536 in
set_option maxHeartbeats 40000000 in
theorem con_max_11 (hw : Hw a0 Z) (G : Ow.Glo Z cz sf) {h0 : Heap} (O0 : Old Z n0 h0) :
    Ow.Con l Z EL1 n0 my25 jdk_29_method_65_code 2 (Option.some Jvm.ClassFile.FieldType.int) [] ({ frames := 0, cells := 0, slots := 0, locals := 0 } : Room) #[(.int 0), (.int 0)] [] h0 (fun v h S' => (v = some (.int 0) ∧ h = h0 ∧ S' = [])) := by
 refine Ow.Con.enter (Ls := #[.val (.int 0), .val (.int 0)]) (by decide +kernel) O0 (hEW hw) (hSA hw) ?_
 intro p e s m below meth c B
 have z0 := Ow.old_le O0
 refine Ow.iloadN (pc' := 1) B e29_0 ?_
 refine Ow.iloadN (pc' := 2) B e29_1 ?_
 refine Ow.icmpF (pc' := 5) B e29_2 (by decide) ?_
 refine Ow.iloadN (pc' := 6) B e29_5 ?_
 refine Ow.goto (pc' := 10) B e29_6 ?_
 exact Ow.retI (S' := []) (t := .int) B e29_10 (⟨rfl, rfl, rfl⟩)
set_option maxRecDepth 65536 in
set_option maxHeartbeats 40000000 in
theorem con_min_12 (hw : Hw a0 Z) (G : Ow.Glo Z cz sf) {h0 : Heap} (O0 : Old Z n0 h0) :
    Ow.Con l Z EL1 n0 my12 jdk_29_method_69_code 2 (Option.some Jvm.ClassFile.FieldType.int) [] ({ frames := 0, cells := 0, slots := 0, locals := 0 } : Room) #[(.int 3), (.int 3)] [] h0 (fun v h S' => (v = some (.int 3) ∧ h = h0 ∧ S' = [])) := by
 refine Ow.Con.enter (Ls := #[.val (.int 3), .val (.int 3)]) (by decide +kernel) O0 (hEW hw) (hSA hw) ?_
 intro p e s m below meth c B
 have z0 := Ow.old_le O0
 refine Ow.iloadN (pc' := 1) B e12_0 ?_
 refine Ow.iloadN (pc' := 2) B e12_1 ?_
 refine Ow.icmpF (pc' := 5) B e12_2 (by decide) ?_
 refine Ow.iloadN (pc' := 6) B e12_5 ?_
 refine Ow.goto (pc' := 10) B e12_6 ?_
 exact Ow.retI (S' := []) (t := .int) B e12_10 (⟨rfl, rfl, rfl⟩)
set_option maxRecDepth 65536 in
set_option maxHeartbeats 40000000 in
theorem con_indexOfChar_13 (hw : Hw a0 Z) (G : Ow.Glo Z cz sf) {pa0 : Nat} {px0 : Int32} {pk0 : ClassId} {h0 : Heap} (O0 : Old Z n0 h0) (hf0 : Arv Z h0 pa0 pk0 .byte (3 : Int32) [(.int 59), (.int 44), (.int 58)] (.int 0)) (hk0 : ¬ (px0 < (0 : Int32))) (hk1 : ¬ ((255 : Int32) < px0)) :
    Ow.Con l Z EL1 n0 my26 jdk_43_method_23_code 6 (Option.some Jvm.ClassFile.FieldType.int) [] ({ frames := 0, cells := 0, slots := 0, locals := 0 } : Room) #[(.ref pa0), (.int px0), (.int 0), (.int 3)] [] h0 (fun v h S' => (∃ i0 : Int32, v = some (.int i0) ∧ h = h0 ∧ sepP px0 ∧ ¬ (i0 < (0 : Int32)) ∧ S' = []) ∨ (∃ i0 : Int32, v = some (.int i0) ∧ h = h0 ∧ ¬ (sepP px0) ∧ i0 < (0 : Int32) ∧ S' = [])) := by
 refine Ow.Con.enter (Ls := #[.val (.ref pa0), .val (.int px0), .val (.int 0), .val (.int 3), .unset, .unset]) (plainFor_of_name pn2) O0 (hEW hw) (hSA hw) ?_
 intro p e s m below meth c B
 have z0 := Ow.old_le O0
 have lpa0 : (pa0 : Nat) < h0.size := hf0.lt
 have i0 := own_i0 (hk0)
 have i1 := own_i255 (hk1)
 have i8 := own_i8 (hk0) (hk1)
 refine Ow.iloadN (pc' := 1) B e30_0 ?_
 refine Ow.i2b (pc' := 2) (z := px0.toInt8.toInt32) B e30_1 ?_
 refine Ow.istore (pc' := 4) (Ls' := #[.val (.ref pa0), .val (.int px0), .val (.int 0), .val (.int 3), .val (.int px0.toInt8.toInt32), .unset]) B e30_2 ?_
 refine Ow.iloadN (pc' := 5) B e30_4 ?_
 refine Ow.istore (pc' := 7) (Ls' := #[.val (.ref pa0), .val (.int px0), .val (.int 0), .val (.int 3), .val (.int px0.toInt8.toInt32), .val (.int 0)]) B e30_5 ?_
 refine Ow.iload (pc' := 9) B e30_7 ?_
 refine Ow.iloadN (pc' := 10) B e30_9 ?_
 refine Ow.icmpF (pc' := 13) B e30_10 (by decide) ?_
 refine Ow.aloadN (pc' := 14) B e30_13 ?_
 refine Ow.iload (pc' := 16) B e30_14 ?_
 refine Ow.baload (pc' := 17) B e30_16 hf0 ⟨by decide, by decide⟩ rfl ?_
 refine Ow.iload (pc' := 19) B e30_17 ?_
 by_cases c1 : (59 : Int32) = px0.toInt8.toInt32
 ·have c1i := c1
  simp only [Int32.lt_iff_toInt_lt, ← Int32.toInt_inj, Int32.reduceToInt] at c1i
  refine Ow.icmpF (pc' := 22) B e30_19 (teq c1).2 ?_
  refine Ow.iload (pc' := 24) B e30_22 ?_
  exact Ow.retI (S' := []) (t := .int) B e30_24 (Or.inl (⟨(0 : Int32), rfl, rfl, (by unfold sepP; simp only [← Int32.toInt_inj, Int32.reduceToInt]; omega), (by decide), rfl⟩))
 ·have c1i := c1
  simp only [Int32.lt_iff_toInt_lt, ← Int32.toInt_inj, Int32.reduceToInt] at c1i
  refine Ow.icmpT (pc' := 25) B e30_19 (feq c1).2 ?_
  refine Ow.iinc (pc' := 28) (y := 1) (Ls' := #[.val (.ref pa0), .val (.int px0), .val (.int 0), .val (.int 3), .val (.int px0.toInt8.toInt32), .val (.int 1)]) B e30_25 ?_
  refine Ow.goto (pc' := 7) B e30_28 ?_
  refine Ow.iload (pc' := 9) B e30_7 ?_
  refine Ow.iloadN (pc' := 10) B e30_9 ?_
  refine Ow.icmpF (pc' := 13) B e30_10 (by decide) ?_
  refine Ow.aloadN (pc' := 14) B e30_13 ?_
  refine Ow.iload (pc' := 16) B e30_14 ?_
  refine Ow.baload (pc' := 17) B e30_16 hf0 ⟨by decide, by decide⟩ rfl ?_
  refine Ow.iload (pc' := 19) B e30_17 ?_
  by_cases c2 : (44 : Int32) = px0.toInt8.toInt32
  ·have c2i := c2
   simp only [Int32.lt_iff_toInt_lt, ← Int32.toInt_inj, Int32.reduceToInt] at c2i
   refine Ow.icmpF (pc' := 22) B e30_19 (teq c2).2 ?_
   refine Ow.iload (pc' := 24) B e30_22 ?_
   exact Ow.retI (S' := []) (t := .int) B e30_24 (Or.inl (⟨(1 : Int32), rfl, rfl, (by unfold sepP; simp only [← Int32.toInt_inj, Int32.reduceToInt]; omega), (by decide), rfl⟩))
  ·have c2i := c2
   simp only [Int32.lt_iff_toInt_lt, ← Int32.toInt_inj, Int32.reduceToInt] at c2i
   refine Ow.icmpT (pc' := 25) B e30_19 (feq c2).2 ?_
   refine Ow.iinc (pc' := 28) (y := 2) (Ls' := #[.val (.ref pa0), .val (.int px0), .val (.int 0), .val (.int 3), .val (.int px0.toInt8.toInt32), .val (.int 2)]) B e30_25 ?_
   refine Ow.goto (pc' := 7) B e30_28 ?_
   refine Ow.iload (pc' := 9) B e30_7 ?_
   refine Ow.iloadN (pc' := 10) B e30_9 ?_
   refine Ow.icmpF (pc' := 13) B e30_10 (by decide) ?_
   refine Ow.aloadN (pc' := 14) B e30_13 ?_
   refine Ow.iload (pc' := 16) B e30_14 ?_
   refine Ow.baload (pc' := 17) B e30_16 hf0 ⟨by decide, by decide⟩ rfl ?_
   refine Ow.iload (pc' := 19) B e30_17 ?_
   by_cases c3 : (58 : Int32) = px0.toInt8.toInt32
   ·have c3i := c3
    simp only [Int32.lt_iff_toInt_lt, ← Int32.toInt_inj, Int32.reduceToInt] at c3i
    refine Ow.icmpF (pc' := 22) B e30_19 (teq c3).2 ?_
    refine Ow.iload (pc' := 24) B e30_22 ?_
    exact Ow.retI (S' := []) (t := .int) B e30_24 (Or.inl (⟨(2 : Int32), rfl, rfl, (by unfold sepP; simp only [← Int32.toInt_inj, Int32.reduceToInt]; omega), (by decide), rfl⟩))
   ·have c3i := c3
    simp only [Int32.lt_iff_toInt_lt, ← Int32.toInt_inj, Int32.reduceToInt] at c3i
    refine Ow.icmpT (pc' := 25) B e30_19 (feq c3).2 ?_
    refine Ow.iinc (pc' := 28) (y := 3) (Ls' := #[.val (.ref pa0), .val (.int px0), .val (.int 0), .val (.int 3), .val (.int px0.toInt8.toInt32), .val (.int 3)]) B e30_25 ?_
    refine Ow.goto (pc' := 7) B e30_28 ?_
    refine Ow.iload (pc' := 9) B e30_7 ?_
    refine Ow.iloadN (pc' := 10) B e30_9 ?_
    refine Ow.icmpT (pc' := 31) B e30_10 (by decide) ?_
    refine Ow.iconst (pc' := 32) (x := (-1 : Int32)) B e30_31 ?_
    exact Ow.retI (S' := []) (t := .int) B e30_32 (Or.inr (⟨(-1 : Int32), rfl, rfl, (by unfold sepP; simp only [← Int32.toInt_inj, Int32.reduceToInt]; omega), (by decide), rfl⟩))
set_option maxRecDepth 65536 in
set_option maxHeartbeats 40000000 in
theorem con_indexOf_14 (hw : Hw a0 Z) (G : Ow.Glo Z cz sf) {pa0 : Nat} {px0 : Int32} {pk0 : ClassId} {h0 : Heap} (O0 : Old Z n0 h0) (hf0 : Arv Z h0 pa0 pk0 .byte (3 : Int32) [(.int 59), (.int 44), (.int 58)] (.int 0)) (hk0 : ¬ (px0 < (0 : Int32))) (hk1 : ¬ ((255 : Int32) < px0)) :
    Ow.Con l Z EL1 n0 my27 jdk_43_method_22_code 4 (Option.some Jvm.ClassFile.FieldType.int) [] ({ frames := 1, cells := 0, slots := 0, locals := 17 } : Room) #[(.ref pa0), (.int px0), (.int 0), (.int 3)] [] h0 (fun v h S' => (∃ i0 : Int32, v = some (.int i0) ∧ h = h0 ∧ sepP px0 ∧ ¬ (i0 < (0 : Int32)) ∧ S' = []) ∨ (∃ i0 : Int32, v = some (.int i0) ∧ h = h0 ∧ ¬ (sepP px0) ∧ i0 < (0 : Int32) ∧ S' = [])) := by
 refine Ow.Con.enter (Ls := #[.val (.ref pa0), .val (.int px0), .val (.int 0), .val (.int 3)]) (plainFor_of_name pn2) O0 (hEW hw) (hSA hw) ?_
 intro p e s m below meth c B
 have z0 := Ow.old_le O0
 have lpa0 : (pa0 : Nat) < h0.size := hf0.lt
 refine Ow.iloadN (pc' := 1) B e27_0 ?_
 refine Ow.Go.old (fun o1 => ?_)
 refine Ow.callStatic (pc' := 4) (W := 0) (k' := 0) (n' := 0) (argsL := [(.int px0)]) (rest := []) B e27_1 (w119 hw) (w120 hw) (w84 hw) (w121 hw) (con_canEncode_10 hw G (px0 := px0) o1 (hk0) (hk1)) pd18 ?_
 intro vq2 h3 S4 q2 zh3
 obtain ⟨rfl, rfl, rfl⟩ := q2
 refine Ow.Go.nr (S' := []) (st' := [(.int 1)]) ?_
 refine Ow.ifT (pc' := 9) B e27_4 (by decide) ?_
 refine Ow.iloadN (pc' := 10) B e27_9 ?_
 refine Ow.iconst (pc' := 11) (x := 0) B e27_10 ?_
 refine Ow.Go.old (fun o5 => ?_)
 refine Ow.callStatic (pc' := 14) (W := 0) (k' := 0) (n' := 0) (argsL := [(.int 0), (.int 0)]) (rest := []) B e27_11 (w122 hw) (w123 hw) (w2 hw) (w124 hw) (con_max_11 hw G o5) pd9 ?_
 intro vq6 h7 S8 q6 zh7
 obtain ⟨rfl, rfl, rfl⟩ := q6
 refine Ow.Go.nr (S' := []) (st' := [(.int 0)]) ?_
 refine Ow.istoreN (pc' := 15) (Ls' := #[.val (.ref pa0), .val (.int px0), .val (.int 0), .val (.int 3)]) B e27_14 ?_
 refine Ow.iloadN (pc' := 16) B e27_15 ?_
 refine Ow.aloadN (pc' := 17) B e27_16 ?_
 refine Ow.arrlen (pc' := 18) B e27_17 hf0 ?_
 refine Ow.Go.old (fun o9 => ?_)
 refine Ow.callStatic (pc' := 21) (W := 0) (k' := 0) (n' := 0) (argsL := [(.int 3), (.int 3)]) (rest := []) B e27_18 (w125 hw) (w1 hw) (w2 hw) (w3 hw) (con_min_12 hw G o9) pd9 ?_
 intro vq10 h11 S12 q10 zh11
 obtain ⟨rfl, rfl, rfl⟩ := q10
 refine Ow.Go.nr (S' := []) (st' := [(.int 3)]) ?_
 refine Ow.istoreN (pc' := 22) (Ls' := #[.val (.ref pa0), .val (.int px0), .val (.int 0), .val (.int 3)]) B e27_21 ?_
 refine Ow.iloadN (pc' := 23) B e27_22 ?_
 refine Ow.iloadN (pc' := 24) B e27_23 ?_
 refine Ow.icmpT (pc' := 29) B e27_24 (by decide) ?_
 refine Ow.aloadN (pc' := 30) B e27_29 ?_
 refine Ow.iloadN (pc' := 31) B e27_30 ?_
 refine Ow.iloadN (pc' := 32) B e27_31 ?_
 refine Ow.iloadN (pc' := 33) B e27_32 ?_
 refine Ow.Go.old (fun o13 => ?_)
 refine Ow.callStatic (pc' := 36) (W := 0) (k' := 0) (n' := 0) (argsL := [(.ref pa0), (.int px0), (.int 0), (.int 3)]) (rest := []) B e27_33 (w126 hw) (w127 hw) (w84 hw) (w128 hw) (con_indexOfChar_13 hw G (pa0 := pa0) (px0 := px0) (pk0 := pk0) o13 hf0 (hk0) (hk1)) pd19 ?_
 intro vq14 h15 S16 q14 zh15
 rcases q14 with q14 | q14
 ·obtain ⟨y17, rfl, rfl, c18, c19, rfl⟩ := q14
  refine Ow.Go.nr (S' := []) (st' := [(.int y17)]) ?_
  exact Ow.retI (S' := []) (t := .int) B e27_36 (Or.inl (⟨y17, rfl, rfl, c18, c19, rfl⟩))
 ·obtain ⟨y20, rfl, rfl, c21, c22, rfl⟩ := q14
  refine Ow.Go.nr (S' := []) (st' := [(.int y20)]) ?_
  exact Ow.retI (S' := []) (t := .int) B e27_36 (Or.inr (⟨y20, rfl, rfl, c21, c22, rfl⟩))
set_option maxRecDepth 65536 in
set_option maxHeartbeats 40000000 in
theorem con_indexOf_15 (hw : Hw a0 Z) (G : Ow.Glo Z cz sf) {pa0 : Nat} {pa1 : Nat} {px0 : Int32} {pk0 : ClassId} {h0 : Heap} (O0 : Old Z n0 h0) (hf0 : Exa Z h0 pa0 "java/lang/String") (hf1 : Fld Z h0 pa0 "java/lang/String" "coder" "B" (.int 0)) (hf2 : Fld Z h0 pa0 "java/lang/String" "value" "[B" (.ref pa1)) (hf3 : Arv Z h0 pa1 pk0 .byte (3 : Int32) [(.int 59), (.int 44), (.int 58)] (.int 0)) (hk0 : ¬ (px0 < (0 : Int32))) (hk1 : ¬ ((255 : Int32) < px0)) :
    Ow.Con l Z EL1 n0 my28 jdk_42_method_80_code 3 (Option.some Jvm.ClassFile.FieldType.int) [] ({ frames := 2, cells := 0, slots := 0, locals := 32 } : Room) #[(.ref pa0), (.int px0), (.int 0)] [] h0 (fun v h S' => (∃ i0 : Int32, v = some (.int i0) ∧ h = h0 ∧ sepP px0 ∧ ¬ (i0 < (0 : Int32)) ∧ S' = []) ∨ (∃ i0 : Int32, v = some (.int i0) ∧ h = h0 ∧ ¬ (sepP px0) ∧ i0 < (0 : Int32) ∧ S' = [])) := by
 refine Ow.Con.enter (Ls := #[.val (.ref pa0), .val (.int px0), .val (.int 0)]) (plainFor_of_name pn1) O0 (hEW hw) (hSA hw) ?_
 intro p e s m below meth c B
 have z0 := Ow.old_le O0
 have lpa0 : (pa0 : Nat) < h0.size := hf0.lt
 have lpa1 : (pa1 : Nat) < h0.size := hf3.lt
 refine Ow.aloadN (pc' := 1) B e26_0 ?_
 refine Ow.Go.old (fun o1 => ?_)
 refine Ow.callVirtual (pc' := 4) (W := 0) (k' := 0) (n' := 0) (argsL := []) (rest := []) (K := "java/lang/String") B e26_1 (w77 hw) (w78 hw) (w80 hw) (w80 hw) (w79 hw) (w17 hw) (w81 hw) hf0 (con_isLatin1_4 hw G (pa0 := pa0) o1 hf1) pd7 ?_
 intro vq2 h3 S4 q2 zh3
 obtain ⟨rfl, rfl, rfl⟩ := q2
 refine Ow.Go.nr (S' := []) (st' := [(.int 1)]) ?_
 refine Ow.ifF (pc' := 7) B e26_4 (by decide) ?_
 refine Ow.aloadN (pc' := 8) B e26_7 ?_
 refine Ow.getfield (pc' := 11) B e26_8 (w42 hw) Via.refl hf2 ?_
 refine Ow.iloadN (pc' := 12) B e26_11 ?_
 refine Ow.iloadN (pc' := 13) B e26_12 ?_
 refine Ow.aloadN (pc' := 14) B e26_13 ?_
 refine Ow.Go.old (fun o5 => ?_)
 refine Ow.callVirtual (pc' := 17) (W := 3) (k' := 0) (n' := 0) (argsL := []) (rest := [(.int 0), (.int px0), (.ref pa1)]) (K := "java/lang/String") B e26_14 (w115 hw) (w63 hw) (w65 hw) (w65 hw) (w64 hw) (w17 hw) (w66 hw) hf0 (con_length_9 hw G (pa0 := pa0) (pa1 := pa1) (pk0 := pk0) o5 hf0 hf1 hf2 hf3) pd12 ?_
 intro vq6 h7 S8 q6 zh7
 obtain ⟨rfl, rfl, rfl⟩ := q6
 refine Ow.Go.nr (S' := []) (st' := [(.int 3), (.int 0), (.int px0), (.ref pa1)]) ?_
 refine Ow.Go.old (fun o9 => ?_)
 refine Ow.callStatic (pc' := 20) (W := 0) (k' := 0) (n' := 0) (argsL := [(.ref pa1), (.int px0), (.int 0), (.int 3)]) (rest := []) B e26_17 (w116 hw) (w117 hw) (w84 hw) (w118 hw) (con_indexOf_14 hw G (pa0 := pa1) (px0 := px0) (pk0 := pk0) o9 hf3 (hk0) (hk1)) pd19 ?_
 intro vq10 h11 S12 q10 zh11
 rcases q10 with q10 | q10
 ·obtain ⟨y13, rfl, rfl, c14, c15, rfl⟩ := q10
  refine Ow.Go.nr (S' := []) (st' := [(.int y13)]) ?_
  refine Ow.goto (pc' := 36) B e26_20 ?_
  exact Ow.retI (S' := []) (t := .int) B e26_36 (Or.inl (⟨y13, rfl, rfl, c14, c15, rfl⟩))
 ·obtain ⟨y16, rfl, rfl, c17, c18, rfl⟩ := q10
  refine Ow.Go.nr (S' := []) (st' := [(.int y16)]) ?_
  refine Ow.goto (pc' := 36) B e26_20 ?_
  exact Ow.retI (S' := []) (t := .int) B e26_36 (Or.inr (⟨y16, rfl, rfl, c17, c18, rfl⟩))
set_option maxRecDepth 65536 in
set_option maxHeartbeats 40000000 in
theorem con_indexOf_16 (hw : Hw a0 Z) (G : Ow.Glo Z cz sf) {pa0 : Nat} {pa1 : Nat} {px0 : Int32} {pk0 : ClassId} {h0 : Heap} (O0 : Old Z n0 h0) (hf0 : Exa Z h0 pa0 "java/lang/String") (hf1 : Fld Z h0 pa0 "java/lang/String" "coder" "B" (.int 0)) (hf2 : Fld Z h0 pa0 "java/lang/String" "value" "[B" (.ref pa1)) (hf3 : Arv Z h0 pa1 pk0 .byte (3 : Int32) [(.int 59), (.int 44), (.int 58)] (.int 0)) (hk0 : ¬ (px0 < (0 : Int32))) (hk1 : ¬ ((255 : Int32) < px0)) :
    Ow.Con l Z EL1 n0 my29 jdk_42_method_79_code 2 (Option.some Jvm.ClassFile.FieldType.int) [] ({ frames := 3, cells := 0, slots := 0, locals := 46 } : Room) #[(.ref pa0), (.int px0)] [] h0 (fun v h S' => (∃ i0 : Int32, v = some (.int i0) ∧ h = h0 ∧ sepP px0 ∧ ¬ (i0 < (0 : Int32)) ∧ S' = []) ∨ (∃ i0 : Int32, v = some (.int i0) ∧ h = h0 ∧ ¬ (sepP px0) ∧ i0 < (0 : Int32) ∧ S' = [])) := by
 refine Ow.Con.enter (Ls := #[.val (.ref pa0), .val (.int px0)]) (plainFor_of_name pn1) O0 (hEW hw) (hSA hw) ?_
 intro p e s m below meth c B
 have z0 := Ow.old_le O0
 have lpa0 : (pa0 : Nat) < h0.size := hf0.lt
 have lpa1 : (pa1 : Nat) < h0.size := hf3.lt
 refine Ow.aloadN (pc' := 1) B e25_0 ?_
 refine Ow.iloadN (pc' := 2) B e25_1 ?_
 refine Ow.iconst (pc' := 3) (x := 0) B e25_2 ?_
 refine Ow.Go.old (fun o1 => ?_)
 refine Ow.callVirtual (pc' := 6) (W := 0) (k' := 0) (n' := 0) (argsL := [(.int px0), (.int 0)]) (rest := []) (K := "java/lang/String") B e25_3 (w110 hw) (w111 hw) (w113 hw) (w113 hw) (w112 hw) (w17 hw) (w114 hw) hf0 (con_indexOf_15 hw G (pa0 := pa0) (pa1 := pa1) (px0 := px0) (pk0 := pk0) o1 hf0 hf1 hf2 hf3 (hk0) (hk1)) pd9 ?_
 intro vq2 h3 S4 q2 zh3
 rcases q2 with q2 | q2
 ·obtain ⟨y5, rfl, rfl, c6, c7, rfl⟩ := q2
  refine Ow.Go.nr (S' := []) (st' := [(.int y5)]) ?_
  exact Ow.retI (S' := []) (t := .int) B e25_6 (Or.inl (⟨y5, rfl, rfl, c6, c7, rfl⟩))
 ·obtain ⟨y8, rfl, rfl, c9, c10, rfl⟩ := q2
  refine Ow.Go.nr (S' := []) (st' := [(.int y8)]) ?_
  exact Ow.retI (S' := []) (t := .int) B e25_6 (Or.inr (⟨y8, rfl, rfl, c9, c10, rfl⟩))
set_option maxRecDepth 65536 in
set_option maxHeartbeats 40000000 in
theorem gEsp (hw : Hw a0 Z) (G : Ow.Glo Z cz sf) {h0 : Heap} (O0 : Old Z n0 h0) {q b t : Nat} {kt : ClassId} {cs : List Int32} (E : Exa Z h0 q "com/example/elsewhere/elsewhere/Field$Subfield") (V : Fld Z h0 q "com/example/elsewhere/elsewhere/Field$Subfield" "value" "Ljava/lang/String;" (.ref b)) (F : Ow.Chs Z h0 b t kt cs) (hL : Ow.Lat cs) (hC : cs.length ≤ 8) (hN : cs.length ≤ 64) {u e' : Nat} (hu : u ≤ e') (he : e' ≤ cs.length) :
    Ow.Con l Z EL1 n0 my30 prog_11_method_4_code 3 (Option.some Jvm.ClassFile.FieldType.int) [] ({ frames := 5, cells := 2, slots := 16, locals := 68 } : Room) #[(.ref q), (.int (Int32.ofNat u)), (.int (Int32.ofNat e'))] [] h0 (fun v h S' => ∃ x : Nat, v = some (.int (Int32.ofNat x)) ∧ Keep h0 h [] ∧ EspP cs u e' x ∧ S' = []) := by
 refine Ow.Con.enter (Ls := #[.val (.ref q), .val (.int (Int32.ofNat u)), .val (.int (Int32.ofNat e'))]) (plainFor_of_name pn6) O0 (hEW hw) (hSA hw) ?_
 intro p e s m below meth c B
 have z0 := Ow.old_le O0
 have lb : (b : Nat) < h0.size := F.lt
 have lt : (t : Nat) < h0.size := F.ltt
 have lq : (q : Nat) < h0.size := E.lt
 refine Ow.iloadN (pc' := 1) B e24_0 ?_
 refine Ow.iloadN (pc' := 2) B e24_1 ?_
 by_cases c2 : (Int32.ofNat u) < (Int32.ofNat e')
 ·have n2 := Ow.nlm c2
  refine Ow.icmpF (pc' := 5) B e24_2 (tlt c2).2.2.2 ?_
  refine Ow.ldcText (pc' := 7) (k' := 2) (n' := 16) (nn := 12) (vs := [(.int 59), (.int 44), (.int 58)]) (z := 3) B e24_5 (w102 hw) (by decide) ⟨by decide, by decide⟩ (by decide) (by decide) ?_
  intro h2 a1 t3 kt3 Kh2 Ea1 Ca1 Va1 At3 Na1
  have zh2 := Kh2.1
  have la1 : (a1 : Nat) < h2.size := Ea1.lt
  have lt3 : (t3 : Nat) < h2.size := At3.lt
  refine Ow.aloadN (pc' := 8) B e24_7 ?_
  have f4 := V.keep Kh2 Ow.nin0
  refine Ow.getfield (pc' := 11) B e24_8 (w55 hw) Via.refl f4 ?_
  refine Ow.iloadN (pc' := 12) B e24_11 ?_
  refine Ow.iconst (pc' := 13) (x := 1) B e24_12 ?_
  refine Ow.isub (pc' := 14) (z := (Int32.ofNat (e' - 1))) (hz := (Ow.nsub (i := 1) (by omega))) B e24_13 ?_
  have f7 := F.keep Kh2 Ow.nin0 Ow.nin0
  refine Ow.Go.old (fun o8 => ?_)
  obtain ⟨y5, e6⟩ : ∃ y, (cs)[(e' - 1)]? = some y := ⟨_, List.getElem?_eq_getElem (by omega)⟩
  refine Ow.callVirtual (pc' := 17) (W := 1) (k' := 2) (n' := 16) (argsL := [(.int (Int32.ofNat (e' - 1)))]) (rest := [(.ref a1)]) (K := "java/lang/String") B e24_14 (w72 hw) (w73 hw) (w75 hw) (w75 hw) (w74 hw) (w17 hw) (w76 hw) (f7).1 (gCha hw G (j := (e' - 1)) (x := y5) o8 f7 e6 (by omega) hL) pd17 ?_
  intro vq9 h10 S11 q9 zh10
  obtain ⟨rfl, rfl, rfl⟩ := q9
  refine Ow.Go.nr (S' := []) (st' := [(.int y5), (.ref a1)]) ?_
  refine Ow.Go.old (fun o12 => ?_)
  refine Ow.callVirtual (pc' := 20) (W := 0) (k' := 2) (n' := 16) (argsL := [(.int y5)]) (rest := []) (K := "java/lang/String") B e24_17 (w105 hw) (w106 hw) (w108 hw) (w108 hw) (w107 hw) (w17 hw) (w109 hw) Ea1 (con_indexOf_16 hw G (pa0 := a1) (pa1 := t3) (px0 := y5) (pk0 := kt3) o12 Ea1 Ca1 Va1 At3 ((f7.2.2.1 y5 (List.mem_of_getElem? e6)).1) (hL y5 (List.mem_of_getElem? e6))) pd20 ?_
  intro vq13 h14 S15 q13 zh14
  rcases q13 with q13 | q13
  ·obtain ⟨y16, rfl, rfl, c17, c18, rfl⟩ := q13
   refine Ow.Go.nr (S' := []) (st' := [(.int y16)]) ?_
   refine Ow.ifF (pc' := 23) B e24_20 (flt (c18)).1 ?_
   refine Ow.aloadN (pc' := 24) B e24_23 ?_
   refine Ow.iloadN (pc' := 25) B e24_24 ?_
   refine Ow.iloadN (pc' := 26) B e24_25 ?_
   refine Ow.iconst (pc' := 27) (x := 1) B e24_26 ?_
   refine Ow.isub (pc' := 28) (z := (Int32.ofNat (e' - 1))) (hz := (Ow.nsub (i := 1) (by omega))) B e24_27 ?_
   have f19 := E.keep Kh2
   refine Ow.Go.old (fun o20 => ?_)
   refine Ow.callPrivate (pc' := 31) (W := 0) (k' := 2) (n' := 16) (argsL := [(.int (Int32.ofNat u)), (.int (Int32.ofNat (e' - 1)))]) (rest := []) (K := "com/example/elsewhere/elsewhere/Field$Subfield") B e24_28 (w94 hw) (w95 hw) (w96 hw) (w13 hw) (w14 hw) (w97 hw) f19 (gEbs hw G (u := u) (e' := (e' - 1)) o20 f19 f4 f7 hL hC hN (by omega) (by omega)) pd9 ?_
   intro vq21 h22 S23 q21 zh22
   obtain ⟨x24, rfl, rfl, hx24, rfl⟩ := q21
   have gx24 := hx24.1
   have jx24 := hx24.2.1
   refine Ow.Go.nr (S' := []) (st' := [(.int (Int32.ofNat x24))]) ?_
   refine Ow.goto (pc' := 35) B e24_31 ?_
   exact Ow.retI (S' := []) (t := .int) B e24_35 (⟨x24, rfl, ((Keep.refl _ []).trans Kh2 (fun _ q => nomatch q)), Or.inl ⟨y5, by omega, e6, c17, hx24⟩, rfl⟩)
  ·obtain ⟨y25, rfl, rfl, c26, c27, rfl⟩ := q13
   refine Ow.Go.nr (S' := []) (st' := [(.int y25)]) ?_
   refine Ow.ifT (pc' := 34) B e24_20 (tlt (c27)).1 ?_
   refine Ow.iloadN (pc' := 35) B e24_34 ?_
   exact Ow.retI (S' := []) (t := .int) B e24_35 (⟨e', rfl, ((Keep.refl _ []).trans Kh2 (fun _ q => nomatch q)), Or.inr ⟨Or.inr ⟨y5, e6, c26⟩, rfl⟩, rfl⟩)
 ·have n2 := Ow.nlmF c2
  refine Ow.icmpT (pc' := 34) B e24_2 (flt c2).2.2.2 ?_
  refine Ow.iloadN (pc' := 35) B e24_34 ?_
  exact Ow.retI (S' := []) (t := .int) B e24_35 (⟨e', rfl, (Keep.refl _ []), Or.inr ⟨Or.inl (by omega), rfl⟩, rfl⟩)
set_option maxRecDepth 65536 in
set_option maxHeartbeats 40000000 in
theorem gCln (hw : Hw a0 Z) (G : Ow.Glo Z cz sf) {h0 : Heap} (O0 : Old Z n0 h0) {q b t : Nat} {kt : ClassId} {cs : List Int32} (E : Exa Z h0 q "com/example/elsewhere/elsewhere/Field$Subfield") (V : Fld Z h0 q "com/example/elsewhere/elsewhere/Field$Subfield" "value" "Ljava/lang/String;" (.ref b)) (F : Ow.Chs Z h0 b t kt cs) (hL : Ow.Lat cs) (hC : cs.length ≤ 8) (hN : cs.length ≤ 64) :
    Ow.Con l Z EL1 n0 my31 prog_11_method_2_code 3 (Option.some (Jvm.ClassFile.FieldType.object "java/lang/String")) [] ({ frames := 6, cells := 4, slots := 36, locals := 84 } : Room) #[(.ref q)] [] h0 (fun v h S' => ∃ r : Nat, ∃ t' : Nat, ∃ kr : ClassId, ∃ x : Nat, ∃ y : Nat, v = some (.ref r) ∧ Keep h0 h [] ∧ Ow.Chs Z h r t' kr (Ow.sl cs x (y - x)) ∧ ClnP cs x y ∧ S' = []) := by
 refine Ow.Con.enter (Ls := #[.val (.ref q), .unset, .unset]) (plainFor_of_name pn6) O0 (hEW hw) (hSA hw) ?_
 intro p e s m below meth c B
 have z0 := Ow.old_le O0
 have lb : (b : Nat) < h0.size := F.lt
 have lt : (t : Nat) < h0.size := F.ltt
 have lq : (q : Nat) < h0.size := E.lt
 refine Ow.iconst (pc' := 1) (x := 0) B e31_0 ?_
 refine Ow.istoreN (pc' := 2) (Ls' := #[.val (.ref q), .val (.int 0), .unset]) B e31_1 ?_
 refine Ow.Go.loop (fun i (x : Nat) h => x + i = cs.length ∧ (∀ j, j < x → cs[j]? = some 32) ∧ h0 = h) (fun x => #[.val (.ref q), .val (.int (Int32.ofNat x)), .unset]) ?_ cs.length 0 ⟨by omega, fun j q => absurd q (by omega), rfl⟩
 intro i x h ⟨hx, hA, hh⟩ ih
 subst hh
 dsimp only
 refine Ow.iloadN (pc' := 3) B e31_2 ?_
 refine Ow.aloadN (pc' := 4) B e31_3 ?_
 refine Ow.getfield (pc' := 7) B e31_4 (w55 hw) Via.refl V ?_
 refine Ow.Go.old (fun o1 => ?_)
 refine Ow.callVirtual (pc' := 10) (W := 1) (k' := 0) (n' := 0) (argsL := []) (rest := [(.int (Int32.ofNat x))]) (K := "java/lang/String") B e31_7 (w62 hw) (w63 hw) (w65 hw) (w65 hw) (w64 hw) (w17 hw) (w66 hw) (F).1 (gLen hw G o1 F (by omega) hL) pd12 ?_
 intro vq2 h3 S4 q2 zh3
 obtain ⟨rfl, rfl, rfl⟩ := q2
 refine Ow.Go.nr (S' := []) (st' := [(.int (Int32.ofNat cs.length)), (.int (Int32.ofNat x))]) ?_
 by_cases c10 : (Int32.ofNat x) < (Int32.ofNat cs.length)
 ·have n10 := Ow.nlm c10
  refine Ow.icmpF (pc' := 13) B e31_10 (tlt c10).2.1 ?_
  refine Ow.aloadN (pc' := 14) B e31_13 ?_
  refine Ow.getfield (pc' := 17) B e31_14 (w55 hw) Via.refl V ?_
  refine Ow.iloadN (pc' := 18) B e31_17 ?_
  refine Ow.Go.old (fun o7 => ?_)
  obtain ⟨y5, e6⟩ : ∃ y, (cs)[x]? = some y := ⟨_, List.getElem?_eq_getElem (by omega)⟩
  refine Ow.callVirtual (pc' := 21) (W := 0) (k' := 0) (n' := 0) (argsL := [(.int (Int32.ofNat x))]) (rest := []) (K := "java/lang/String") B e31_18 (w72 hw) (w73 hw) (w75 hw) (w75 hw) (w74 hw) (w17 hw) (w76 hw) (F).1 (gCha hw G (j := x) (x := y5) o7 F e6 (by omega) hL) pd17 ?_
  intro vq8 h9 S10 q8 zh9
  obtain ⟨rfl, rfl, rfl⟩ := q8
  refine Ow.Go.nr (S' := []) (st' := [(.int y5)]) ?_
  refine Ow.bipush (pc' := 23) (x := 32) B e31_21 ?_
  by_cases c23 : y5 = (32 : Int32)
  ·refine Ow.icmpF (pc' := 26) B e31_23 (teq c23).2 ?_
   refine Ow.iinc (pc' := 29) (y := (Int32.ofNat (x + 1))) (Ls' := #[.val (.ref q), .val (.int (Int32.ofNat (x + 1))), .unset]) (hy := ((Ow.nS x)).symm) B e31_26 ?_
   refine Ow.goto (pc' := 2) B e31_29 ?_
   exact ih (i - 1) (x + 1) _ (by omega) ⟨by omega, (fun j q1 => if q : j = x then (by rw [q, e6, c23]) else hA j (by omega)), rfl⟩
  ·refine Ow.icmpT (pc' := 32) B e31_23 (feq c23).2 ?_
   refine Ow.aloadN (pc' := 33) B e31_32 ?_
   refine Ow.iloadN (pc' := 34) B e31_33 ?_
   refine Ow.aloadN (pc' := 35) B e31_34 ?_
   refine Ow.getfield (pc' := 38) B e31_35 (w55 hw) Via.refl V ?_
   refine Ow.Go.old (fun o11 => ?_)
   refine Ow.callVirtual (pc' := 41) (W := 2) (k' := 0) (n' := 0) (argsL := []) (rest := [(.int (Int32.ofNat x)), (.ref q)]) (K := "java/lang/String") B e31_38 (w62 hw) (w63 hw) (w65 hw) (w65 hw) (w64 hw) (w17 hw) (w66 hw) (F).1 (gLen hw G o11 F (by omega) hL) pd12 ?_
   intro vq12 h13 S14 q12 zh13
   obtain ⟨rfl, rfl, rfl⟩ := q12
   refine Ow.Go.nr (S' := []) (st' := [(.int (Int32.ofNat cs.length)), (.int (Int32.ofNat x)), (.ref q)]) ?_
   refine Ow.Go.old (fun o15 => ?_)
   refine Ow.callPrivate (pc' := 44) (W := 0) (k' := 0) (n' := 0) (argsL := [(.int (Int32.ofNat x)), (.int (Int32.ofNat cs.length))]) (rest := []) (K := "com/example/elsewhere/elsewhere/Field$Subfield") B e31_41 (w94 hw) (w95 hw) (w96 hw) (w13 hw) (w14 hw) (w97 hw) E (gEbs hw G (u := x) (e' := cs.length) o15 E V F hL hC hN (by omega) (by omega)) pd9 ?_
   intro vq16 h17 S18 q16 zh17
   obtain ⟨x19, rfl, rfl, hx19, rfl⟩ := q16
   have gx19 := hx19.1
   have jx19 := hx19.2.1
   refine Ow.Go.nr (S' := []) (st' := [(.int (Int32.ofNat x19))]) ?_
   refine Ow.istoreN (pc' := 45) (Ls' := #[.val (.ref q), .val (.int (Int32.ofNat x)), .val (.int (Int32.ofNat x19))]) B e31_44 ?_
   refine Ow.aloadN (pc' := 46) B e31_45 ?_
   refine Ow.getfield (pc' := 49) B e31_46 (w55 hw) Via.refl V ?_
   refine Ow.iloadN (pc' := 50) B e31_49 ?_
   refine Ow.aloadN (pc' := 51) B e31_50 ?_
   refine Ow.iloadN (pc' := 52) B e31_51 ?_
   refine Ow.iloadN (pc' := 53) B e31_52 ?_
   refine Ow.Go.old (fun o20 => ?_)
   refine Ow.callPrivate (pc' := 56) (W := 2) (k' := 2) (n' := 16) (argsL := [(.int (Int32.ofNat x)), (.int (Int32.ofNat x19))]) (rest := [(.int (Int32.ofNat x)), (.ref b)]) (K := "com/example/elsewhere/elsewhere/Field$Subfield") B e31_53 (w98 hw) (w99 hw) (w100 hw) (w13 hw) (w14 hw) (w101 hw) E (gEsp hw G (u := x) (e' := x19) o20 E V F hL hC hN (by omega) (by omega)) pd9 ?_
   intro vq21 h22 S23 q21 zh22
   obtain ⟨x24, rfl, Kh22, hx24, rfl⟩ := q21
   have gx24 := hx24.rng (by omega)
   refine Ow.Go.nr (S' := []) (st' := [(.int (Int32.ofNat x24)), (.int (Int32.ofNat x)), (.ref b)]) ?_
   have f25 := F.keep Kh22 Ow.nin0 Ow.nin0
   refine Ow.Go.old (fun o26 => ?_)
   refine Ow.callVirtual (pc' := 59) (W := 0) (k' := 4) (n' := 36) (argsL := [(.int (Int32.ofNat x)), (.int (Int32.ofNat x24))]) (rest := []) (K := "java/lang/String") B e31_56 (w129 hw) (w130 hw) (w132 hw) (w132 hw) (w131 hw) (w17 hw) (w133 hw) (f25).1 (gSub hw G (cs := cs) (i := x) (e' := x24) o26 f25 (by omega) (by omega) hL (by omega) (by omega)) pd21 ?_
   intro vq27 h28 S29 q27 zh28
   obtain ⟨r30, t31, k32, rfl, Kh28, f33, rfl⟩ := q27
   have lr30 : (r30 : Nat) < h28.size := f33.lt
   have lt31 : (t31 : Nat) < h28.size := f33.ltt
   refine Ow.Go.nr (S' := []) (st' := [(.ref r30)]) ?_
   exact Ow.retA (S' := []) (t := (.object "java/lang/String")) B e31_59 (⟨r30, t31, k32, x, x24, rfl, (((Keep.refl _ []).trans Kh22 (fun _ q => nomatch q)).trans Kh28 (fun _ q => nomatch q)), f33, ⟨by omega, hA, fun _ q => c23 (Option.some.inj (e6.symm.trans q)), x19, hx19, hx24⟩, rfl⟩)
 ·have n10 := Ow.nlmF c10
  refine Ow.icmpT (pc' := 32) B e31_10 (flt c10).2.1 ?_
  refine Ow.aloadN (pc' := 33) B e31_32 ?_
  refine Ow.iloadN (pc' := 34) B e31_33 ?_
  refine Ow.aloadN (pc' := 35) B e31_34 ?_
  refine Ow.getfield (pc' := 38) B e31_35 (w55 hw) Via.refl V ?_
  refine Ow.Go.old (fun o34 => ?_)
  refine Ow.callVirtual (pc' := 41) (W := 2) (k' := 0) (n' := 0) (argsL := []) (rest := [(.int (Int32.ofNat x)), (.ref q)]) (K := "java/lang/String") B e31_38 (w62 hw) (w63 hw) (w65 hw) (w65 hw) (w64 hw) (w17 hw) (w66 hw) (F).1 (gLen hw G o34 F (by omega) hL) pd12 ?_
  intro vq35 h36 S37 q35 zh36
  obtain ⟨rfl, rfl, rfl⟩ := q35
  refine Ow.Go.nr (S' := []) (st' := [(.int (Int32.ofNat cs.length)), (.int (Int32.ofNat x)), (.ref q)]) ?_
  refine Ow.Go.old (fun o38 => ?_)
  refine Ow.callPrivate (pc' := 44) (W := 0) (k' := 0) (n' := 0) (argsL := [(.int (Int32.ofNat x)), (.int (Int32.ofNat cs.length))]) (rest := []) (K := "com/example/elsewhere/elsewhere/Field$Subfield") B e31_41 (w94 hw) (w95 hw) (w96 hw) (w13 hw) (w14 hw) (w97 hw) E (gEbs hw G (u := x) (e' := cs.length) o38 E V F hL hC hN (by omega) (by omega)) pd9 ?_
  intro vq39 h40 S41 q39 zh40
  obtain ⟨x42, rfl, rfl, hx42, rfl⟩ := q39
  have gx42 := hx42.1
  have jx42 := hx42.2.1
  refine Ow.Go.nr (S' := []) (st' := [(.int (Int32.ofNat x42))]) ?_
  refine Ow.istoreN (pc' := 45) (Ls' := #[.val (.ref q), .val (.int (Int32.ofNat x)), .val (.int (Int32.ofNat x42))]) B e31_44 ?_
  refine Ow.aloadN (pc' := 46) B e31_45 ?_
  refine Ow.getfield (pc' := 49) B e31_46 (w55 hw) Via.refl V ?_
  refine Ow.iloadN (pc' := 50) B e31_49 ?_
  refine Ow.aloadN (pc' := 51) B e31_50 ?_
  refine Ow.iloadN (pc' := 52) B e31_51 ?_
  refine Ow.iloadN (pc' := 53) B e31_52 ?_
  refine Ow.Go.old (fun o43 => ?_)
  refine Ow.callPrivate (pc' := 56) (W := 2) (k' := 2) (n' := 16) (argsL := [(.int (Int32.ofNat x)), (.int (Int32.ofNat x42))]) (rest := [(.int (Int32.ofNat x)), (.ref b)]) (K := "com/example/elsewhere/elsewhere/Field$Subfield") B e31_53 (w98 hw) (w99 hw) (w100 hw) (w13 hw) (w14 hw) (w101 hw) E (gEsp hw G (u := x) (e' := x42) o43 E V F hL hC hN (by omega) (by omega)) pd9 ?_
  intro vq44 h45 S46 q44 zh45
  obtain ⟨x47, rfl, Kh45, hx47, rfl⟩ := q44
  have gx47 := hx47.rng (by omega)
  refine Ow.Go.nr (S' := []) (st' := [(.int (Int32.ofNat x47)), (.int (Int32.ofNat x)), (.ref b)]) ?_
  have f48 := F.keep Kh45 Ow.nin0 Ow.nin0
  refine Ow.Go.old (fun o49 => ?_)
  refine Ow.callVirtual (pc' := 59) (W := 0) (k' := 4) (n' := 36) (argsL := [(.int (Int32.ofNat x)), (.int (Int32.ofNat x47))]) (rest := []) (K := "java/lang/String") B e31_56 (w129 hw) (w130 hw) (w132 hw) (w132 hw) (w131 hw) (w17 hw) (w133 hw) (f48).1 (gSub hw G (cs := cs) (i := x) (e' := x47) o49 f48 (by omega) (by omega) hL (by omega) (by omega)) pd21 ?_
  intro vq50 h51 S52 q50 zh51
  obtain ⟨r53, t54, k55, rfl, Kh51, f56, rfl⟩ := q50
  have lr53 : (r53 : Nat) < h51.size := f56.lt
  have lt54 : (t54 : Nat) < h51.size := f56.ltt
  refine Ow.Go.nr (S' := []) (st' := [(.ref r53)]) ?_
  exact Ow.retA (S' := []) (t := (.object "java/lang/String")) B e31_59 (⟨r53, t54, k55, x, x47, rfl, (((Keep.refl _ []).trans Kh45 (fun _ q => nomatch q)).trans Kh51 (fun _ q => nomatch q)), f56, ⟨by omega, hA, fun q => absurd q (by omega), x42, hx42, hx47⟩, rfl⟩)
set_option maxRecDepth 65536 in
set_option maxHeartbeats 40000000 in
theorem gSame (hw : Hw a0 Z) (G : Ow.Glo Z cz sf) {h0 : Heap} (O0 : Old Z n0 h0) {r t v' na nk i : Nat} {kt kv : ClassId} {cs : List Int32} (F : Ow.Chs Z h0 r t kt (Ow.sl cs na nk)) (D : Arv Z h0 v' kv .char (Int32.ofNat cs.length) (Ow.CA cs) (.int 0)) (hL : Ow.Lat cs) (hs : na + nk ≤ cs.length) (hi : i < 8) (hN : cs.length ≤ 64) :
    Ow.Con l Z EL1 n0 my32 method_5_code 5 (Option.some Jvm.ClassFile.FieldType.boolean) [] ({ frames := 4, cells := 0, slots := 0, locals := 53 } : Room) #[(.ref r), (.ref v'), (.int (Int32.ofNat na)), (.int (Int32.ofNat nk)), (.int (Int32.ofNat i))] [] h0 (fun v h S' => v = some (.int 1) ∧ h = h0 ∧ S' = []) := by
 refine Ow.Con.enter (Ls := #[.val (.ref r), .val (.ref v'), .val (.int (Int32.ofNat na)), .val (.int (Int32.ofNat nk)), .val (.int (Int32.ofNat i))]) (plainFor_of_name pn5) O0 (hEW hw) (hSA hw) ?_
 intro p e s m below meth c B
 have z0 := Ow.old_le O0
 refine Ow.iload (pc' := 2) B e32_0 ?_
 refine Ow.iloadN (pc' := 3) B e32_2 ?_
 by_cases c3 : (Int32.ofNat i) < (Int32.ofNat nk)
 ·have n3 := Ow.nlm c3
  refine Ow.icmpF (pc' := 6) B e32_3 (tlt c3).2.1 ?_
  refine Ow.aloadN (pc' := 7) B e32_6 ?_
  refine Ow.iload (pc' := 9) B e32_7 ?_
  refine Ow.Go.old (fun o3 => ?_)
  obtain ⟨y1, e2⟩ : ∃ y, ((Ow.sl cs na nk))[i]? = some y := ⟨_, List.getElem?_eq_getElem (by simp; omega)⟩
  refine Ow.callVirtual (pc' := 12) (W := 0) (k' := 0) (n' := 0) (argsL := [(.int (Int32.ofNat i))]) (rest := []) (K := "java/lang/String") B e32_9 (w144 hw) (w73 hw) (w75 hw) (w75 hw) (w74 hw) (w17 hw) (w76 hw) (F).1 (gCha hw G (j := i) (x := y1) o3 F e2 (by simp; omega) (fun x q => hL x (Ow.sl_mem q))) pd17 ?_
  intro vq4 h5 S6 q4 zh5
  obtain ⟨rfl, rfl, rfl⟩ := q4
  refine Ow.Go.nr (S' := []) (st' := [(.int y1)]) ?_
  refine Ow.aloadN (pc' := 13) B e32_12 ?_
  refine Ow.iloadN (pc' := 14) B e32_13 ?_
  refine Ow.iload (pc' := 16) B e32_14 ?_
  refine Ow.iadd (pc' := 17) (z := (Int32.ofNat (na + i))) (hz := (Ow.nadd _ _)) B e32_16 ?_
  refine Ow.caload (pc' := 18) (v := (.int y1)) B e32_17 D ⟨Ow.nn, Ow.nlT (by omega)⟩ (by rw [Ow.nc]; exact Ow.gD (Ow.CAa (Ow.sl_at e2).2)) ?_
  refine Ow.icmpF (pc' := 21) B e32_18 (teq (rfl)).2 ?_
  refine Ow.iconst (pc' := 22) (x := 1) B e32_21 ?_
  refine Ow.goto (pc' := 26) B e32_22 ?_
  exact Ow.retI (S' := []) (t := .boolean) B e32_26 (⟨rfl, rfl, rfl⟩)
 ·have n3 := Ow.nlmF c3
  refine Ow.icmpT (pc' := 21) B e32_3 (flt c3).2.1 ?_
  refine Ow.iconst (pc' := 22) (x := 1) B e32_21 ?_
  refine Ow.goto (pc' := 26) B e32_22 ?_
  exact Ow.retI (S' := []) (t := .boolean) B e32_26 (⟨rfl, rfl, rfl⟩)
set_option maxRecDepth 65536 in
set_option maxHeartbeats 40000000 in
theorem con_init_17 (hw : Hw a0 Z) (G : Ow.Glo Z cz sf) {pa0 : Nat} {h0 : Heap} (O0 : Old Z n0 h0) :
    Ow.Con l Z EL1 n0 my33 jdk_30_method_1_code 1 (Option.none : Option Jvm.ClassFile.FieldType) [] ({ frames := 1, cells := 0, slots := 0, locals := 12 } : Room) #[(.ref pa0)] [] h0 (fun v h S' => (v = none ∧ h = h0 ∧ S' = [])) := by
 refine Ow.Con.enter (Ls := #[.val (.ref pa0)]) (plainFor_of_name pn7) O0 (hEW hw) (hSA hw) ?_
 intro p e s m below meth c B
 have z0 := Ow.old_le O0
 refine Ow.aloadN (pc' := 1) B e34_0 ?_
 refine Ow.objInit (pc' := 4) (W := 0) B e34_1 (w52 hw) (w26 hw) (w27 hw) ?_
 exact Ow.retV (S' := []) B e34_4 (⟨rfl, rfl, rfl⟩)
set_option maxRecDepth 65536 in
set_option maxHeartbeats 40000000 in
theorem con_init_18 (hw : Hw a0 Z) (G : Ow.Glo Z cz sf) {pa0 : Nat} {pa1 : Nat} {px0 : Int32} {h0 : Heap} (O0 : Old Z n0 h0) (hf0 : Exa Z h0 pa0 "com/example/elsewhere/elsewhere/Field$Subfield") (hf1 : Fld Z h0 pa0 "com/example/elsewhere/elsewhere/Field$Subfield" "code" "I" (.int 0)) (hf2 : Fld Z h0 pa0 "com/example/elsewhere/elsewhere/Field$Subfield" "value" "Ljava/lang/String;" .null) (hn0 : n0 ≤ pa0) :
    Ow.Con l Z EL1 n0 my34 prog_11_method_1_code 3 (Option.none : Option Jvm.ClassFile.FieldType) [] ({ frames := 2, cells := 0, slots := 0, locals := 24 } : Room) #[(.ref pa0), (.int px0), (.ref pa1)] [] h0 (fun v h S' => (v = none ∧ Keep h0 h [pa0] ∧ Exa Z h pa0 "com/example/elsewhere/elsewhere/Field$Subfield" ∧ Fld Z h pa0 "com/example/elsewhere/elsewhere/Field$Subfield" "code" "I" (.int px0) ∧ Fld Z h pa0 "com/example/elsewhere/elsewhere/Field$Subfield" "value" "Ljava/lang/String;" (.ref pa1) ∧ S' = [])) := by
 refine Ow.Con.enter (Ls := #[.val (.ref pa0), .val (.int px0), .val (.ref pa1)]) (plainFor_of_name pn6) O0 (hEW hw) (hSA hw) ?_
 intro p e s m below meth c B
 have z0 := Ow.old_le O0
 have lpa0 : (pa0 : Nat) < h0.size := hf0.lt
 refine Ow.aloadN (pc' := 1) B e33_0 ?_
 refine Ow.Go.old (fun o1 => ?_)
 refine Ow.callInit (pc' := 4) (W := 0) (k' := 0) (n' := 0) (argsL := []) (rest := []) B e33_1 (w47 hw) (w48 hw) (w50 hw) (w51 hw) (con_init_17 hw G (pa0 := pa0) o1) pd24 ?_
 intro vq2 h3 S4 q2 zh3
 obtain ⟨rfl, rfl, rfl⟩ := q2
 refine Ow.Go.nr (S' := []) (st' := []) ?_
 refine Ow.aloadN (pc' := 5) B e33_4 ?_
 refine Ow.iloadN (pc' := 6) B e33_5 ?_
 refine Ow.putfield (pc' := 9) (ty := .int) B e33_6 (w53 hw) Via.refl hf1 hf0 (Or.inr ⟨(w54 hw), rfl, rfl⟩) (w13 hw) (Or.inr ⟨by decide, by decide⟩) ?_
 intro h5 Wh5
 have Kh5 := Keep.of_wr Wh5
 have zh5 := Kh5.1
 have f6 : Fld Z h5 pa0 "com/example/elsewhere/elsewhere/Field$Subfield" "code" "I" (.int px0) := hf1.same Wh5
 have f7 : Fld Z h5 pa0 "com/example/elsewhere/elsewhere/Field$Subfield" "value" "Ljava/lang/String;" .null := hf2.other Wh5 (Or.inr (slot_ne (a0 := a0) (C := "com/example/elsewhere/elsewhere/Field$Subfield") (t := (.object "java/lang/String")) (t' := .int) (Or.inr (w56 hw)) (Or.inr (w54 hw)) (by decide) (by decide) (by decide)))
 refine Ow.aloadN (pc' := 10) B e33_9 ?_
 refine Ow.aloadN (pc' := 11) B e33_10 ?_
 have f8 := hf0.keep Kh5
 refine Ow.putfield (pc' := 14) (ty := (.object "java/lang/String")) B e33_11 (w55 hw) Via.refl f7 f8 (Or.inr ⟨(w56 hw), rfl, rfl⟩) (w13 hw) (Or.inr ⟨by decide, by decide⟩) ?_
 intro h9 Wh9
 have Kh9 := Keep.of_wr Wh9
 have zh9 := Kh9.1
 have f10 : Fld Z h9 pa0 "com/example/elsewhere/elsewhere/Field$Subfield" "value" "Ljava/lang/String;" (.ref pa1) := f7.same Wh9
 have f11 : Fld Z h9 pa0 "com/example/elsewhere/elsewhere/Field$Subfield" "code" "I" (.int px0) := f6.other Wh9 (Or.inr (slot_ne (a0 := a0) (C := "com/example/elsewhere/elsewhere/Field$Subfield") (t := .int) (t' := (.object "java/lang/String")) (Or.inr (w54 hw)) (Or.inr (w56 hw)) (by decide) (by decide) (by decide)))
 have f12 := f8.keep Kh9
 exact Ow.retV (S' := []) B e33_14 (⟨rfl, (((Keep.refl _ [pa0]).trans Kh5 (allS (Or.inl (by simp)) all0)).trans Kh9 (allS (Or.inl (by simp)) all0)), f12, f11, f10, rfl⟩)
set_option maxRecDepth 65536 in
set_option maxHeartbeats 40000000 in
theorem lawCon (hw : Hw a0 Z) (G : Ow.Glo Z cz sf) (x0 : Int32) (x1 x2 : Int64) (x3 : Int32) {h0 : Heap} (O0 : Old Z n0 h0)  :
    Ow.Con l Z EL1 n0 x code maxLocals ret tables_1 room_1 #[(.int x0), (.long x1), (.long x2), (.int x3)] [] h0 (fun v _ _ => v = some (.int 1)) := by
 refine Ow.Con.enter (Ls := #[.val (.int x0), .val (.long x1), .second, .val (.long x2), .second, .val (.int x3), .unset, .unset, .unset, .unset, .unset, .unset, .unset, .unset, .unset, .unset]) (plainFor_of_name pn5) O0 (hEW hw) (hSA hw) ?_
 intro p e s m below meth c B
 have z0 := Ow.old_le O0
 refine Ow.iloadN (pc' := 1) B at_0 ?_
 refine Ow.iconst (pc' := 2) (x := 3) B at_1 ?_
 obtain ⟨na, hna, ena⟩ := Ow.andN x0 (y := 3) (n := 3) (by decide) (by decide)
 refine Ow.iand (pc' := 3) (z := (Int32.ofNat na)) (hz := ena) B at_2 ?_
 refine Ow.istore (pc' := 5) (Ls' := #[.val (.int x0), .val (.long x1), .second, .val (.long x2), .second, .val (.int x3), .val (.int (Int32.ofNat na)), .unset, .unset, .unset, .unset, .unset, .unset, .unset, .unset, .unset]) B at_3 ?_
 refine Ow.iloadN (pc' := 6) B at_5 ?_
 refine Ow.iconst (pc' := 7) (x := 2) B at_6 ?_
 refine Ow.iushr (pc' := 8) (z := (Jvm.Free.XT.ushr x0 (2 : Int32))) B at_7 ?_
 refine Ow.iconst (pc' := 9) (x := 3) B at_8 ?_
 obtain ⟨nb, hnb, enb⟩ := Ow.andN (Jvm.Free.XT.ushr x0 (2 : Int32)) (y := 3) (n := 3) (by decide) (by decide)
 refine Ow.iand (pc' := 10) (z := (Int32.ofNat nb)) (hz := enb) B at_9 ?_
 refine Ow.istore (pc' := 12) (Ls' := #[.val (.int x0), .val (.long x1), .second, .val (.long x2), .second, .val (.int x3), .val (.int (Int32.ofNat na)), .val (.int (Int32.ofNat nb)), .unset, .unset, .unset, .unset, .unset, .unset, .unset, .unset]) B at_10 ?_
 refine Ow.iloadN (pc' := 13) B at_12 ?_
 refine Ow.iconst (pc' := 14) (x := 4) B at_13 ?_
 refine Ow.iushr (pc' := 15) (z := (Jvm.Free.XT.ushr x0 (4 : Int32))) B at_14 ?_
 refine Ow.iconst (pc' := 16) (x := 3) B at_15 ?_
 obtain ⟨nc0, hnc0, enc0⟩ := Ow.andN (Jvm.Free.XT.ushr x0 (4 : Int32)) (y := 3) (n := 3) (by decide) (by decide)
 refine Ow.iand (pc' := 17) (z := (Int32.ofNat nc0)) (hz := enc0) B at_16 ?_
 refine Ow.istore (pc' := 19) (Ls' := #[.val (.int x0), .val (.long x1), .second, .val (.long x2), .second, .val (.int x3), .val (.int (Int32.ofNat na)), .val (.int (Int32.ofNat nb)), .val (.int (Int32.ofNat nc0)), .unset, .unset, .unset, .unset, .unset, .unset, .unset]) B at_17 ?_
 refine Ow.iloadN (pc' := 20) B at_19 ?_
 refine Ow.bipush (pc' := 22) (x := 6) B at_20 ?_
 refine Ow.iushr (pc' := 23) (z := (Jvm.Free.XT.ushr x0 (6 : Int32))) B at_22 ?_
 refine Ow.iconst (pc' := 24) (x := 1) B at_23 ?_
 obtain ⟨ns, hns, ens⟩ := Ow.andN (Jvm.Free.XT.ushr x0 (6 : Int32)) (y := 1) (n := 1) (by decide) (by decide)
 refine Ow.iand (pc' := 25) (z := (Int32.ofNat ns)) (hz := ens) B at_24 ?_
 refine Ow.istore (pc' := 27) (Ls' := #[.val (.int x0), .val (.long x1), .second, .val (.long x2), .second, .val (.int x3), .val (.int (Int32.ofNat na)), .val (.int (Int32.ofNat nb)), .val (.int (Int32.ofNat nc0)), .val (.int (Int32.ofNat ns)), .unset, .unset, .unset, .unset, .unset, .unset]) B at_25 ?_
 refine Ow.iloadN (pc' := 28) B at_27 ?_
 refine Ow.bipush (pc' := 30) (x := 7) B at_28 ?_
 refine Ow.iushr (pc' := 31) (z := (Jvm.Free.XT.ushr x0 (7 : Int32))) B at_30 ?_
 refine Ow.iconst (pc' := 32) (x := 3) B at_31 ?_
 refine Ow.iand (pc' := 33) (z := ((Jvm.Free.XT.ushr x0 (7 : Int32)) &&& (3 : Int32))) B at_32 ?_
 refine Ow.iconst (pc' := 34) (x := 3) B at_33 ?_
 obtain ⟨sel, hsel⟩ : ∃ z : Int32, (((Jvm.Free.XT.ushr x0 (7 : Int32)) &&& (3 : Int32)) % (3 : Int32)) = z := ⟨_, rfl⟩
 refine Ow.irem (pc' := 35) (z := sel) (hz := hsel) B at_34 ?_
 refine Ow.istore (pc' := 37) (Ls' := #[.val (.int x0), .val (.long x1), .second, .val (.long x2), .second, .val (.int x3), .val (.int (Int32.ofNat na)), .val (.int (Int32.ofNat nb)), .val (.int (Int32.ofNat nc0)), .val (.int (Int32.ofNat ns)), .val (.int sel), .unset, .unset, .unset, .unset, .unset]) B at_35 ?_
 refine Ow.Go.join (α := { y : Int32 // sepP y }) (pc1 := 60) (fun _ => #[.val (.int x0), .val (.long x1), .second, .val (.long x2), .second, .val (.int x3), .val (.int (Int32.ofNat na)), .val (.int (Int32.ofNat nb)), .val (.int (Int32.ofNat nc0)), .val (.int (Int32.ofNat ns)), .val (.int sel), .unset, .unset, .unset, .unset, .unset]) (fun b => [.int b.1]) ?_ ?_
 ·intro ⟨b1, hb1⟩
  dsimp only
  refine Ow.istore (pc' := 62) (Ls' := #[.val (.int x0), .val (.long x1), .second, .val (.long x2), .second, .val (.int x3), .val (.int (Int32.ofNat na)), .val (.int (Int32.ofNat nb)), .val (.int (Int32.ofNat nc0)), .val (.int (Int32.ofNat ns)), .val (.int sel), .val (.int b1), .unset, .unset, .unset, .unset]) B at_60 ?_
  refine Ow.iload (pc' := 64) B at_62 ?_
  refine Ow.bipush (pc' := 66) (x := 8) B at_64 ?_
  refine Ow.iload (pc' := 68) B at_66 ?_
  refine Ow.isub (pc' := 69) (z := (Int32.ofNat (8 - na))) (hz := (Ow.nsub (n := 8) (by omega))) B at_68 ?_
  refine Ow.iload (pc' := 71) B at_69 ?_
  refine Ow.isub (pc' := 72) (z := (Int32.ofNat (8 - na - nb))) (hz := (Ow.nsub (by omega))) B at_71 ?_
  refine Ow.iload (pc' := 74) B at_72 ?_
  refine Ow.isub (pc' := 75) (z := (Int32.ofNat (8 - na - nb - ns))) (hz := (Ow.nsub (by omega))) B at_74 ?_
  refine Ow.Go.old (fun o2 => ?_)
  refine Ow.callStatic (pc' := 78) (W := 0) (k' := 0) (n' := 0) (argsL := [(.int (Int32.ofNat nc0)), (.int (Int32.ofNat (8 - na - nb - ns)))]) (rest := []) B at_75 (w0 hw) (w1 hw) (w2 hw) (w3 hw) (gMn hw G o2 (by omega) (by omega)) pd9 ?_
  intro vq3 h4 S5 q3 zh4
  obtain ⟨nc, rfl, hc, rfl, rfl⟩ := q3
  refine Ow.Go.nr (S' := []) (st' := [(.int (Int32.ofNat nc))]) ?_
  refine Ow.istore (pc' := 80) (Ls' := #[.val (.int x0), .val (.long x1), .second, .val (.long x2), .second, .val (.int x3), .val (.int (Int32.ofNat na)), .val (.int (Int32.ofNat nb)), .val (.int (Int32.ofNat nc0)), .val (.int (Int32.ofNat ns)), .val (.int sel), .val (.int b1), .val (.int (Int32.ofNat nc)), .unset, .unset, .unset]) B at_78 ?_
  refine Ow.bipush (pc' := 82) (x := 8) B at_80 ?_
  refine Ow.iload (pc' := 84) B at_82 ?_
  refine Ow.isub (pc' := 85) (z := (Int32.ofNat (8 - na))) (hz := (Ow.nsub (n := 8) (by omega))) B at_84 ?_
  refine Ow.iload (pc' := 87) B at_85 ?_
  refine Ow.isub (pc' := 88) (z := (Int32.ofNat (8 - na - nb))) (hz := (Ow.nsub (by omega))) B at_87 ?_
  refine Ow.iload (pc' := 90) B at_88 ?_
  refine Ow.isub (pc' := 91) (z := (Int32.ofNat (8 - na - nb - ns))) (hz := (Ow.nsub (by omega))) B at_90 ?_
  refine Ow.iload (pc' := 93) B at_91 ?_
  obtain ⟨nk, hk⟩ : ∃ k : Nat, k = 8 - na - nb - ns - nc := ⟨_, rfl⟩
  refine Ow.isub (pc' := 94) (z := (Int32.ofNat nk)) (hz := (by rw [hk]; exact Ow.nsub (by omega))) B at_93 ?_
  refine Ow.istore (pc' := 96) (Ls' := #[.val (.int x0), .val (.long x1), .second, .val (.long x2), .second, .val (.int x3), .val (.int (Int32.ofNat na)), .val (.int (Int32.ofNat nb)), .val (.int (Int32.ofNat nc0)), .val (.int (Int32.ofNat ns)), .val (.int sel), .val (.int b1), .val (.int (Int32.ofNat nc)), .val (.int (Int32.ofNat nk)), .unset, .unset]) B at_94 ?_
  refine Ow.bipush (pc' := 98) (x := 8) B at_96 ?_
  refine Ow.newArr (pc' := 100) (k' := 1) (n' := 8) (cap := 8) B at_98 (w4 hw) (by decide) (by decide) ?_
  intro h7 a6 ka6 ga6 ba6 Kh7 V0a6
  have zh7 := Kh7.1
  have la6 : (a6 : Nat) < h7.size := V0a6.lt
  have Va6 : Arv Z h7 a6 ka6 .char (8 : Int32) [(.int 0), (.int 0), (.int 0), (.int 0), (.int 0), (.int 0), (.int 0), (.int 0)] (.int 0) := V0a6.pad (pad_rep [] (.int 0) 8)
  refine Ow.astore (pc' := 102) (Ls' := #[.val (.int x0), .val (.long x1), .second, .val (.long x2), .second, .val (.int x3), .val (.int (Int32.ofNat na)), .val (.int (Int32.ofNat nb)), .val (.int (Int32.ofNat nc0)), .val (.int (Int32.ofNat ns)), .val (.int sel), .val (.int b1), .val (.int (Int32.ofNat nc)), .val (.int (Int32.ofNat nk)), .val (.ref a6), .unset]) B at_100 ?_
  refine Ow.aload (pc' := 104) B at_102 ?_
  refine Ow.iconst (pc' := 105) (x := 0) B at_104 ?_
  refine Ow.iconst (pc' := 106) (x := 0) B at_105 ?_
  refine Ow.iload (pc' := 108) B at_106 ?_
  refine Ow.iload (pc' := 110) B at_108 ?_
  refine Ow.iload (pc' := 112) B at_110 ?_
  refine Ow.iload (pc' := 114) B at_112 ?_
  refine Ow.iload (pc' := 116) B at_114 ?_
  refine Ow.lloadN (pc' := 117) B at_116 ?_
  refine Ow.lloadN (pc' := 118) B at_117 ?_
  refine Ow.Go.old (fun o8 => ?_)
  refine Ow.callStatic (pc' := 121) (W := 2) (k' := 1) (n' := 8) (argsL := [(.int 0), (.int (Int32.ofNat na)), (.int (Int32.ofNat nk)), (.int (Int32.ofNat nb)), (.int (Int32.ofNat ns)), (.int b1), (.long x1), (.long x2)]) (rest := [(.int 0), (.ref a6)]) B at_118 (w5 hw) (w6 hw) (w7 hw) (w8 hw) (gPos hw G (np := 0) (na := na) (nk := nk) (nb := nb) (ns := ns) o8 (by omega) (by omega) (by omega) (own_sepr hb1)) pd22 ?_
  intro vq9 h10 S11 q9 zh10
  obtain ⟨y0, rfl, rfl, hy0, rfl⟩ := q9
  refine Ow.Go.nr (S' := [a6]) (st' := [(.int y0), (.int 0), (.ref a6)]) ?_
  refine Ow.castore (pc' := 122) (i := 0) B at_121 Va6 ⟨by decide, by decide⟩ ?_
  intro h12 Kh12 V0h12
  have zh12 := Kh12.1
  have V13 : Arv Z h12 a6 ka6 .char (8 : Int32) [(.int y0), (.int 0), (.int 0), (.int 0), (.int 0), (.int 0), (.int 0), (.int 0)] (.int 0) := (by have e0 := V0h12; rw [show nar .char y0 = y0 from (Ow.nar_id hy0.1.1 hy0.1.2)] at e0; exact e0)
  refine Ow.aload (pc' := 124) B at_122 ?_
  refine Ow.iconst (pc' := 125) (x := 1) B at_124 ?_
  refine Ow.iconst (pc' := 126) (x := 1) B at_125 ?_
  refine Ow.iload (pc' := 128) B at_126 ?_
  refine Ow.iload (pc' := 130) B at_128 ?_
  refine Ow.iload (pc' := 132) B at_130 ?_
  refine Ow.iload (pc' := 134) B at_132 ?_
  refine Ow.iload (pc' := 136) B at_134 ?_
  refine Ow.lloadN (pc' := 137) B at_136 ?_
  refine Ow.lloadN (pc' := 138) B at_137 ?_
  refine Ow.Go.old (fun o14 => ?_)
  refine Ow.callStatic (pc' := 141) (W := 2) (k' := 1) (n' := 8) (argsL := [(.int 1), (.int (Int32.ofNat na)), (.int (Int32.ofNat nk)), (.int (Int32.ofNat nb)), (.int (Int32.ofNat ns)), (.int b1), (.long x1), (.long x2)]) (rest := [(.int 1), (.ref a6)]) B at_138 (w5 hw) (w6 hw) (w7 hw) (w8 hw) (gPos hw G (np := 1) (na := na) (nk := nk) (nb := nb) (ns := ns) o14 (by omega) (by omega) (by omega) (own_sepr hb1)) pd22 ?_
  intro vq15 h16 S17 q15 zh16
  obtain ⟨y1, rfl, rfl, hy1, rfl⟩ := q15
  refine Ow.Go.nr (S' := [a6]) (st' := [(.int y1), (.int 1), (.ref a6)]) ?_
  refine Ow.castore (pc' := 142) (i := 1) B at_141 V13 ⟨by decide, by decide⟩ ?_
  intro h18 Kh18 V0h18
  have zh18 := Kh18.1
  have V19 : Arv Z h18 a6 ka6 .char (8 : Int32) [(.int y0), (.int y1), (.int 0), (.int 0), (.int 0), (.int 0), (.int 0), (.int 0)] (.int 0) := (by have e0 := V0h18; rw [show nar .char y1 = y1 from (Ow.nar_id hy1.1.1 hy1.1.2)] at e0; exact e0)
  refine Ow.aload (pc' := 144) B at_142 ?_
  refine Ow.iconst (pc' := 145) (x := 2) B at_144 ?_
  refine Ow.iconst (pc' := 146) (x := 2) B at_145 ?_
  refine Ow.iload (pc' := 148) B at_146 ?_
  refine Ow.iload (pc' := 150) B at_148 ?_
  refine Ow.iload (pc' := 152) B at_150 ?_
  refine Ow.iload (pc' := 154) B at_152 ?_
  refine Ow.iload (pc' := 156) B at_154 ?_
  refine Ow.lloadN (pc' := 157) B at_156 ?_
  refine Ow.lloadN (pc' := 158) B at_157 ?_
  refine Ow.Go.old (fun o20 => ?_)
  refine Ow.callStatic (pc' := 161) (W := 2) (k' := 1) (n' := 8) (argsL := [(.int 2), (.int (Int32.ofNat na)), (.int (Int32.ofNat nk)), (.int (Int32.ofNat nb)), (.int (Int32.ofNat ns)), (.int b1), (.long x1), (.long x2)]) (rest := [(.int 2), (.ref a6)]) B at_158 (w5 hw) (w6 hw) (w7 hw) (w8 hw) (gPos hw G (np := 2) (na := na) (nk := nk) (nb := nb) (ns := ns) o20 (by omega) (by omega) (by omega) (own_sepr hb1)) pd22 ?_
  intro vq21 h22 S23 q21 zh22
  obtain ⟨y2, rfl, rfl, hy2, rfl⟩ := q21
  refine Ow.Go.nr (S' := [a6]) (st' := [(.int y2), (.int 2), (.ref a6)]) ?_
  refine Ow.castore (pc' := 162) (i := 2) B at_161 V19 ⟨by decide, by decide⟩ ?_
  intro h24 Kh24 V0h24
  have zh24 := Kh24.1
  have V25 : Arv Z h24 a6 ka6 .char (8 : Int32) [(.int y0), (.int y1), (.int y2), (.int 0), (.int 0), (.int 0), (.int 0), (.int 0)] (.int 0) := (by have e0 := V0h24; rw [show nar .char y2 = y2 from (Ow.nar_id hy2.1.1 hy2.1.2)] at e0; exact e0)
  refine Ow.aload (pc' := 164) B at_162 ?_
  refine Ow.iconst (pc' := 165) (x := 3) B at_164 ?_
  refine Ow.iconst (pc' := 166) (x := 3) B at_165 ?_
  refine Ow.iload (pc' := 168) B at_166 ?_
  refine Ow.iload (pc' := 170) B at_168 ?_
  refine Ow.iload (pc' := 172) B at_170 ?_
  refine Ow.iload (pc' := 174) B at_172 ?_
  refine Ow.iload (pc' := 176) B at_174 ?_
  refine Ow.lloadN (pc' := 177) B at_176 ?_
  refine Ow.lloadN (pc' := 178) B at_177 ?_
  refine Ow.Go.old (fun o26 => ?_)
  refine Ow.callStatic (pc' := 181) (W := 2) (k' := 1) (n' := 8) (argsL := [(.int 3), (.int (Int32.ofNat na)), (.int (Int32.ofNat nk)), (.int (Int32.ofNat nb)), (.int (Int32.ofNat ns)), (.int b1), (.long x1), (.long x2)]) (rest := [(.int 3), (.ref a6)]) B at_178 (w5 hw) (w6 hw) (w7 hw) (w8 hw) (gPos hw G (np := 3) (na := na) (nk := nk) (nb := nb) (ns := ns) o26 (by omega) (by omega) (by omega) (own_sepr hb1)) pd22 ?_
  intro vq27 h28 S29 q27 zh28
  obtain ⟨y3, rfl, rfl, hy3, rfl⟩ := q27
  refine Ow.Go.nr (S' := [a6]) (st' := [(.int y3), (.int 3), (.ref a6)]) ?_
  refine Ow.castore (pc' := 182) (i := 3) B at_181 V25 ⟨by decide, by decide⟩ ?_
  intro h30 Kh30 V0h30
  have zh30 := Kh30.1
  have V31 : Arv Z h30 a6 ka6 .char (8 : Int32) [(.int y0), (.int y1), (.int y2), (.int y3), (.int 0), (.int 0), (.int 0), (.int 0)] (.int 0) := (by have e0 := V0h30; rw [show nar .char y3 = y3 from (Ow.nar_id hy3.1.1 hy3.1.2)] at e0; exact e0)
  refine Ow.aload (pc' := 184) B at_182 ?_
  refine Ow.iconst (pc' := 185) (x := 4) B at_184 ?_
  refine Ow.iconst (pc' := 186) (x := 4) B at_185 ?_
  refine Ow.iload (pc' := 188) B at_186 ?_
  refine Ow.iload (pc' := 190) B at_188 ?_
  refine Ow.iload (pc' := 192) B at_190 ?_
  refine Ow.iload (pc' := 194) B at_192 ?_
  refine Ow.iload (pc' := 196) B at_194 ?_
  refine Ow.lloadN (pc' := 197) B at_196 ?_
  refine Ow.lloadN (pc' := 198) B at_197 ?_
  refine Ow.Go.old (fun o32 => ?_)
  refine Ow.callStatic (pc' := 201) (W := 2) (k' := 1) (n' := 8) (argsL := [(.int 4), (.int (Int32.ofNat na)), (.int (Int32.ofNat nk)), (.int (Int32.ofNat nb)), (.int (Int32.ofNat ns)), (.int b1), (.long x1), (.long x2)]) (rest := [(.int 4), (.ref a6)]) B at_198 (w5 hw) (w6 hw) (w7 hw) (w8 hw) (gPos hw G (np := 4) (na := na) (nk := nk) (nb := nb) (ns := ns) o32 (by omega) (by omega) (by omega) (own_sepr hb1)) pd22 ?_
  intro vq33 h34 S35 q33 zh34
  obtain ⟨y4, rfl, rfl, hy4, rfl⟩ := q33
  refine Ow.Go.nr (S' := [a6]) (st' := [(.int y4), (.int 4), (.ref a6)]) ?_
  refine Ow.castore (pc' := 202) (i := 4) B at_201 V31 ⟨by decide, by decide⟩ ?_
  intro h36 Kh36 V0h36
  have zh36 := Kh36.1
  have V37 : Arv Z h36 a6 ka6 .char (8 : Int32) [(.int y0), (.int y1), (.int y2), (.int y3), (.int y4), (.int 0), (.int 0), (.int 0)] (.int 0) := (by have e0 := V0h36; rw [show nar .char y4 = y4 from (Ow.nar_id hy4.1.1 hy4.1.2)] at e0; exact e0)
  refine Ow.aload (pc' := 204) B at_202 ?_
  refine Ow.iconst (pc' := 205) (x := 5) B at_204 ?_
  refine Ow.iconst (pc' := 206) (x := 5) B at_205 ?_
  refine Ow.iload (pc' := 208) B at_206 ?_
  refine Ow.iload (pc' := 210) B at_208 ?_
  refine Ow.iload (pc' := 212) B at_210 ?_
  refine Ow.iload (pc' := 214) B at_212 ?_
  refine Ow.iload (pc' := 216) B at_214 ?_
  refine Ow.lloadN (pc' := 217) B at_216 ?_
  refine Ow.lloadN (pc' := 218) B at_217 ?_
  refine Ow.Go.old (fun o38 => ?_)
  refine Ow.callStatic (pc' := 221) (W := 2) (k' := 1) (n' := 8) (argsL := [(.int 5), (.int (Int32.ofNat na)), (.int (Int32.ofNat nk)), (.int (Int32.ofNat nb)), (.int (Int32.ofNat ns)), (.int b1), (.long x1), (.long x2)]) (rest := [(.int 5), (.ref a6)]) B at_218 (w5 hw) (w6 hw) (w7 hw) (w8 hw) (gPos hw G (np := 5) (na := na) (nk := nk) (nb := nb) (ns := ns) o38 (by omega) (by omega) (by omega) (own_sepr hb1)) pd22 ?_
  intro vq39 h40 S41 q39 zh40
  obtain ⟨y5, rfl, rfl, hy5, rfl⟩ := q39
  refine Ow.Go.nr (S' := [a6]) (st' := [(.int y5), (.int 5), (.ref a6)]) ?_
  refine Ow.castore (pc' := 222) (i := 5) B at_221 V37 ⟨by decide, by decide⟩ ?_
  intro h42 Kh42 V0h42
  have zh42 := Kh42.1
  have V43 : Arv Z h42 a6 ka6 .char (8 : Int32) [(.int y0), (.int y1), (.int y2), (.int y3), (.int y4), (.int y5), (.int 0), (.int 0)] (.int 0) := (by have e0 := V0h42; rw [show nar .char y5 = y5 from (Ow.nar_id hy5.1.1 hy5.1.2)] at e0; exact e0)
  refine Ow.aload (pc' := 224) B at_222 ?_
  refine Ow.bipush (pc' := 226) (x := 6) B at_224 ?_
  refine Ow.bipush (pc' := 228) (x := 6) B at_226 ?_
  refine Ow.iload (pc' := 230) B at_228 ?_
  refine Ow.iload (pc' := 232) B at_230 ?_
  refine Ow.iload (pc' := 234) B at_232 ?_
  refine Ow.iload (pc' := 236) B at_234 ?_
  refine Ow.iload (pc' := 238) B at_236 ?_
  refine Ow.lloadN (pc' := 239) B at_238 ?_
  refine Ow.lloadN (pc' := 240) B at_239 ?_
  refine Ow.Go.old (fun o44 => ?_)
  refine Ow.callStatic (pc' := 243) (W := 2) (k' := 1) (n' := 8) (argsL := [(.int 6), (.int (Int32.ofNat na)), (.int (Int32.ofNat nk)), (.int (Int32.ofNat nb)), (.int (Int32.ofNat ns)), (.int b1), (.long x1), (.long x2)]) (rest := [(.int 6), (.ref a6)]) B at_240 (w5 hw) (w6 hw) (w7 hw) (w8 hw) (gPos hw G (np := 6) (na := na) (nk := nk) (nb := nb) (ns := ns) o44 (by omega) (by omega) (by omega) (own_sepr hb1)) pd22 ?_
  intro vq45 h46 S47 q45 zh46
  obtain ⟨y6, rfl, rfl, hy6, rfl⟩ := q45
  refine Ow.Go.nr (S' := [a6]) (st' := [(.int y6), (.int 6), (.ref a6)]) ?_
  refine Ow.castore (pc' := 244) (i := 6) B at_243 V43 ⟨by decide, by decide⟩ ?_
  intro h48 Kh48 V0h48
  have zh48 := Kh48.1
  have V49 : Arv Z h48 a6 ka6 .char (8 : Int32) [(.int y0), (.int y1), (.int y2), (.int y3), (.int y4), (.int y5), (.int y6), (.int 0)] (.int 0) := (by have e0 := V0h48; rw [show nar .char y6 = y6 from (Ow.nar_id hy6.1.1 hy6.1.2)] at e0; exact e0)
  refine Ow.aload (pc' := 246) B at_244 ?_
  refine Ow.bipush (pc' := 248) (x := 7) B at_246 ?_
  refine Ow.bipush (pc' := 250) (x := 7) B at_248 ?_
  refine Ow.iload (pc' := 252) B at_250 ?_
  refine Ow.iload (pc' := 254) B at_252 ?_
  refine Ow.iload (pc' := 256) B at_254 ?_
  refine Ow.iload (pc' := 258) B at_256 ?_
  refine Ow.iload (pc' := 260) B at_258 ?_
  refine Ow.lloadN (pc' := 261) B at_260 ?_
  refine Ow.lloadN (pc' := 262) B at_261 ?_
  refine Ow.Go.old (fun o50 => ?_)
  refine Ow.callStatic (pc' := 265) (W := 2) (k' := 1) (n' := 8) (argsL := [(.int 7), (.int (Int32.ofNat na)), (.int (Int32.ofNat nk)), (.int (Int32.ofNat nb)), (.int (Int32.ofNat ns)), (.int b1), (.long x1), (.long x2)]) (rest := [(.int 7), (.ref a6)]) B at_262 (w5 hw) (w6 hw) (w7 hw) (w8 hw) (gPos hw G (np := 7) (na := na) (nk := nk) (nb := nb) (ns := ns) o50 (by omega) (by omega) (by omega) (own_sepr hb1)) pd22 ?_
  intro vq51 h52 S53 q51 zh52
  obtain ⟨y7, rfl, rfl, hy7, rfl⟩ := q51
  refine Ow.Go.nr (S' := [a6]) (st' := [(.int y7), (.int 7), (.ref a6)]) ?_
  refine Ow.castore (pc' := 266) (i := 7) B at_265 V49 ⟨by decide, by decide⟩ ?_
  intro h54 Kh54 V0h54
  have zh54 := Kh54.1
  have V55 : Arv Z h54 a6 ka6 .char (8 : Int32) [(.int y0), (.int y1), (.int y2), (.int y3), (.int y4), (.int y5), (.int y6), (.int y7)] (.int 0) := (by have e0 := V0h54; rw [show nar .char y7 = y7 from (Ow.nar_id hy7.1.1 hy7.1.2)] at e0; exact e0)
  have hL : Ow.Lat [y0, y1, y2, y3, y4, y5, y6, y7] := (Ow.allI hy0.1.2 (Ow.allI hy1.1.2 (Ow.allI hy2.1.2 (Ow.allI hy3.1.2 (Ow.allI hy4.1.2 (Ow.allI hy5.1.2 (Ow.allI hy6.1.2 (Ow.allI hy7.1.2 Ow.allI0))))))))
  refine Ow.newObj (pc' := 269) (k' := 2) (n' := 10) B at_266 (w12 hw) (w13 hw) (w14 hw) ?_
  intro h57 a56 ga56 ba56 Kh57 Aa56 Da56
  have zh57 := Kh57.1
  have la56 : (a56 : Nat) < h57.size := Aa56.lt
  have f58 : Fld Z h57 a56 "com/example/elsewhere/elsewhere/Field$Subfield" "code" "I" (.int 0) := Da56 (Or.inr (w54 hw)) (ty := .int) (by decide)
  have f59 : Fld Z h57 a56 "com/example/elsewhere/elsewhere/Field$Subfield" "value" "Ljava/lang/String;" .null := Da56 (Or.inr (w56 hw)) (ty := (.object "java/lang/String")) (by decide)
  refine Ow.dup (pc' := 270) B at_269 ?_
  refine Ow.iload (pc' := 272) B at_270 ?_
  refine Ow.newObj (pc' := 275) (k' := 3) (n' := 14) B at_272 (w15 hw) (w16 hw) (w17 hw) ?_
  intro h61 a60 ga60 ba60 Kh61 Aa60 Da60
  have zh61 := Kh61.1
  have la60 : (a60 : Nat) < h61.size := Aa60.lt
  have f62 : Fld Z h61 a60 "java/lang/String" "coder" "B" (.int 0) := Da60 (Or.inr (w41 hw)) (ty := .byte) (by decide)
  have f63 : Fld Z h61 a60 "java/lang/String" "value" "[B" .null := Da60 (Or.inr (w43 hw)) (ty := (.array .byte)) (by decide)
  refine Ow.dup (pc' := 276) B at_275 ?_
  refine Ow.aload (pc' := 278) B at_276 ?_
  have f64 := V55.keep Kh57 Ow.nin0
  have f65 := f64.keep Kh61 Ow.nin0
  refine Ow.Go.old (fun o66 => ?_)
  refine Ow.callInit (pc' := 281) (W := 4) (k' := 4) (n' := 22) (argsL := [(.ref a6)]) (rest := [(.ref a60), (.int x3), (.ref a56), (.ref a56)]) B at_278 (w18 hw) (w19 hw) (w17 hw) (w20 hw) (gIni hw G (cs := [y0, y1, y2, y3, y4, y5, y6, y7]) o66 f65 Aa60 f63 f62 (by omega) (by omega) (Ow.allI ⟨hy0.1.1, (fun q => hy0.1.2 (Int32.lt_trans (by decide) q))⟩ (Ow.allI ⟨hy1.1.1, (fun q => hy1.1.2 (Int32.lt_trans (by decide) q))⟩ (Ow.allI ⟨hy2.1.1, (fun q => hy2.1.2 (Int32.lt_trans (by decide) q))⟩ (Ow.allI ⟨hy3.1.1, (fun q => hy3.1.2 (Int32.lt_trans (by decide) q))⟩ (Ow.allI ⟨hy4.1.1, (fun q => hy4.1.2 (Int32.lt_trans (by decide) q))⟩ (Ow.allI ⟨hy5.1.1, (fun q => hy5.1.2 (Int32.lt_trans (by decide) q))⟩ (Ow.allI ⟨hy6.1.1, (fun q => hy6.1.2 (Int32.lt_trans (by decide) q))⟩ (Ow.allI ⟨hy7.1.1, (fun q => hy7.1.2 (Int32.lt_trans (by decide) q))⟩ Ow.allI0)))))))) hL (by simp) (by simp) (by simp)) pd23 ?_
  intro vq67 h68 S69 q67 zh68
  obtain ⟨t70, k71, rfl, Kh68, bt70, f72, rfl⟩ := q67
  have lt70 : (t70 : Nat) < h68.size := f72.ltt
  refine Ow.Go.nr (S' := [a60, a56, a6]) (st' := [(.ref a60), (.int x3), (.ref a56), (.ref a56)]) ?_
  refine Ow.Go.old (fun o73 => ?_)
  have f74 := Aa56.keep Kh61
  have f75 := f74.keep Kh68
  have f76 := f58.keep Kh61 Ow.nin0
  have f77 := f76.keep Kh68 (Ow.ninS (by omega) Ow.nin0)
  have f78 := f59.keep Kh61 Ow.nin0
  have f79 := f78.keep Kh68 (Ow.ninS (by omega) Ow.nin0)
  refine Ow.callInit (pc' := 284) (W := 1) (k' := 4) (n' := 22) (argsL := [(.int x3), (.ref a60)]) (rest := [(.ref a56)]) B at_281 (w44 hw) (w45 hw) (w14 hw) (w46 hw) (con_init_18 hw G (pa0 := a56) (pa1 := a60) (px0 := x3) o73 f75 f77 f79 (by omega)) pd25 ?_
  intro vq80 h81 S82 q80 zh81
  obtain ⟨rfl, Kh81, f83, f84, f85, rfl⟩ := q80
  refine Ow.Go.nr (S' := [a60, a56, a6]) (st' := [(.ref a56)]) ?_
  have f86 := f72.keep Kh81 (Ow.ninS (by omega) Ow.nin0) (Ow.ninS (by omega) Ow.nin0)
  refine Ow.Go.old (fun o87 => ?_)
  refine Ow.callVirtual (pc' := 287) (W := 0) (k' := 8) (n' := 58) (argsL := []) (rest := []) (K := "com/example/elsewhere/elsewhere/Field$Subfield") B at_284 (w57 hw) (w58 hw) (w60 hw) (w60 hw) (w59 hw) (w14 hw) (w61 hw) f83 (gCln hw G o87 f83 f85 f86 hL (by simp) (by simp)) pd26 ?_
  intro vq88 h89 S90 q88 zh89
  obtain ⟨r91, t92, k93, x, y, rfl, Kh89, f94, hX, rfl⟩ := q88
  have lr91 : (r91 : Nat) < h89.size := f94.lt
  have lt92 : (t92 : Nat) < h89.size := f94.ltt
  rw [plain (a := na) (k := nk) (b := nb) (s := ns) rfl hns (by omega) hb1 (fun p hp => by
   match p, hp with
   | 0, _ => exact ⟨y0, rfl, hy0⟩
   | 1, _ => exact ⟨y1, rfl, hy1⟩
   | 2, _ => exact ⟨y2, rfl, hy2⟩
   | 3, _ => exact ⟨y3, rfl, hy3⟩
   | 4, _ => exact ⟨y4, rfl, hy4⟩
   | 5, _ => exact ⟨y5, rfl, hy5⟩
   | 6, _ => exact ⟨y6, rfl, hy6⟩
   | 7, _ => exact ⟨y7, rfl, hy7⟩) hX] at f94
  refine Ow.Go.nr (S' := [a60, a56, a6]) (st' := [(.ref r91)]) ?_
  refine Ow.astore (pc' := 289) (Ls' := #[.val (.int x0), .val (.long x1), .second, .val (.long x2), .second, .val (.int x3), .val (.int (Int32.ofNat na)), .val (.int (Int32.ofNat nb)), .val (.int (Int32.ofNat nc0)), .val (.int (Int32.ofNat ns)), .val (.int sel), .val (.int b1), .val (.int (Int32.ofNat nc)), .val (.int (Int32.ofNat nk)), .val (.ref a6), .val (.ref r91)]) B at_287 ?_
  refine Ow.aload (pc' := 291) B at_289 ?_
  refine Ow.Go.old (fun o95 => ?_)
  refine Ow.callVirtual (pc' := 294) (W := 0) (k' := 8) (n' := 58) (argsL := []) (rest := []) (K := "java/lang/String") B at_291 (w140 hw) (w63 hw) (w65 hw) (w65 hw) (w64 hw) (w17 hw) (w66 hw) (f94).1 (gLen hw G o95 f94 (by simp; omega) (fun x q => hL x (Ow.sl_mem q))) pd12 ?_
  intro vq96 h97 S98 q96 zh97
  obtain ⟨rfl, rfl, rfl⟩ := q96
  refine Ow.Go.nr (S' := [a60, a56, a6]) (st' := [(.int (Int32.ofNat (Ow.sl [y0, y1, y2, y3, y4, y5, y6, y7] na nk).length))]) ?_
  refine Ow.iload (pc' := 296) B at_294 ?_
  refine Ow.icmpF (pc' := 299) B at_296 (teq (by rw [Ow.sl_len (by simp; omega)])).2 ?_
  refine Ow.aload (pc' := 301) B at_299 ?_
  refine Ow.aload (pc' := 303) B at_301 ?_
  refine Ow.iload (pc' := 305) B at_303 ?_
  refine Ow.iload (pc' := 307) B at_305 ?_
  refine Ow.iconst (pc' := 308) (x := 0) B at_307 ?_
  have f99 := f65.keep Kh68 (Ow.ninS (by omega) Ow.nin0)
  have f100 := f99.keep Kh81 (Ow.ninS (by omega) Ow.nin0)
  have f101 := f100.keep Kh89 Ow.nin0
  refine Ow.Go.old (fun o102 => ?_)
  refine Ow.callStatic (pc' := 311) (W := 0) (k' := 8) (n' := 58) (argsL := [(.ref r91), (.ref a6), (.int (Int32.ofNat na)), (.int (Int32.ofNat nk)), (.int 0)]) (rest := []) B at_308 (w141 hw) (w142 hw) (w7 hw) (w143 hw) (gSame hw G (i := 0) (cs := [y0, y1, y2, y3, y4, y5, y6, y7]) o102 f94 f101 hL (by simp; omega) (by omega) (by simp)) pd27 ?_
  intro vq103 h104 S105 q103 zh104
  obtain ⟨rfl, rfl, rfl⟩ := q103
  refine Ow.Go.nr (S' := [a60, a56, a6]) (st' := [(.int 1)]) ?_
  refine Ow.ifF (pc' := 314) B at_311 (by decide) ?_
  refine Ow.aload (pc' := 316) B at_314 ?_
  refine Ow.aload (pc' := 318) B at_316 ?_
  refine Ow.iload (pc' := 320) B at_318 ?_
  refine Ow.iload (pc' := 322) B at_320 ?_
  refine Ow.iconst (pc' := 323) (x := 1) B at_322 ?_
  refine Ow.Go.old (fun o106 => ?_)
  refine Ow.callStatic (pc' := 326) (W := 0) (k' := 8) (n' := 58) (argsL := [(.ref r91), (.ref a6), (.int (Int32.ofNat na)), (.int (Int32.ofNat nk)), (.int 1)]) (rest := []) B at_323 (w141 hw) (w142 hw) (w7 hw) (w143 hw) (gSame hw G (i := 1) (cs := [y0, y1, y2, y3, y4, y5, y6, y7]) o106 f94 f101 hL (by simp; omega) (by omega) (by simp)) pd27 ?_
  intro vq107 h108 S109 q107 zh108
  obtain ⟨rfl, rfl, rfl⟩ := q107
  refine Ow.Go.nr (S' := [a60, a56, a6]) (st' := [(.int 1)]) ?_
  refine Ow.ifF (pc' := 329) B at_326 (by decide) ?_
  refine Ow.aload (pc' := 331) B at_329 ?_
  refine Ow.aload (pc' := 333) B at_331 ?_
  refine Ow.iload (pc' := 335) B at_333 ?_
  refine Ow.iload (pc' := 337) B at_335 ?_
  refine Ow.iconst (pc' := 338) (x := 2) B at_337 ?_
  refine Ow.Go.old (fun o110 => ?_)
  refine Ow.callStatic (pc' := 341) (W := 0) (k' := 8) (n' := 58) (argsL := [(.ref r91), (.ref a6), (.int (Int32.ofNat na)), (.int (Int32.ofNat nk)), (.int 2)]) (rest := []) B at_338 (w141 hw) (w142 hw) (w7 hw) (w143 hw) (gSame hw G (i := 2) (cs := [y0, y1, y2, y3, y4, y5, y6, y7]) o110 f94 f101 hL (by simp; omega) (by omega) (by simp)) pd27 ?_
  intro vq111 h112 S113 q111 zh112
  obtain ⟨rfl, rfl, rfl⟩ := q111
  refine Ow.Go.nr (S' := [a60, a56, a6]) (st' := [(.int 1)]) ?_
  refine Ow.ifF (pc' := 344) B at_341 (by decide) ?_
  refine Ow.aload (pc' := 346) B at_344 ?_
  refine Ow.aload (pc' := 348) B at_346 ?_
  refine Ow.iload (pc' := 350) B at_348 ?_
  refine Ow.iload (pc' := 352) B at_350 ?_
  refine Ow.iconst (pc' := 353) (x := 3) B at_352 ?_
  refine Ow.Go.old (fun o114 => ?_)
  refine Ow.callStatic (pc' := 356) (W := 0) (k' := 8) (n' := 58) (argsL := [(.ref r91), (.ref a6), (.int (Int32.ofNat na)), (.int (Int32.ofNat nk)), (.int 3)]) (rest := []) B at_353 (w141 hw) (w142 hw) (w7 hw) (w143 hw) (gSame hw G (i := 3) (cs := [y0, y1, y2, y3, y4, y5, y6, y7]) o114 f94 f101 hL (by simp; omega) (by omega) (by simp)) pd27 ?_
  intro vq115 h116 S117 q115 zh116
  obtain ⟨rfl, rfl, rfl⟩ := q115
  refine Ow.Go.nr (S' := [a60, a56, a6]) (st' := [(.int 1)]) ?_
  refine Ow.ifF (pc' := 359) B at_356 (by decide) ?_
  refine Ow.aload (pc' := 361) B at_359 ?_
  refine Ow.aload (pc' := 363) B at_361 ?_
  refine Ow.iload (pc' := 365) B at_363 ?_
  refine Ow.iload (pc' := 367) B at_365 ?_
  refine Ow.iconst (pc' := 368) (x := 4) B at_367 ?_
  refine Ow.Go.old (fun o118 => ?_)
  refine Ow.callStatic (pc' := 371) (W := 0) (k' := 8) (n' := 58) (argsL := [(.ref r91), (.ref a6), (.int (Int32.ofNat na)), (.int (Int32.ofNat nk)), (.int 4)]) (rest := []) B at_368 (w141 hw) (w142 hw) (w7 hw) (w143 hw) (gSame hw G (i := 4) (cs := [y0, y1, y2, y3, y4, y5, y6, y7]) o118 f94 f101 hL (by simp; omega) (by omega) (by simp)) pd27 ?_
  intro vq119 h120 S121 q119 zh120
  obtain ⟨rfl, rfl, rfl⟩ := q119
  refine Ow.Go.nr (S' := [a60, a56, a6]) (st' := [(.int 1)]) ?_
  refine Ow.ifF (pc' := 374) B at_371 (by decide) ?_
  refine Ow.aload (pc' := 376) B at_374 ?_
  refine Ow.aload (pc' := 378) B at_376 ?_
  refine Ow.iload (pc' := 380) B at_378 ?_
  refine Ow.iload (pc' := 382) B at_380 ?_
  refine Ow.iconst (pc' := 383) (x := 5) B at_382 ?_
  refine Ow.Go.old (fun o122 => ?_)
  refine Ow.callStatic (pc' := 386) (W := 0) (k' := 8) (n' := 58) (argsL := [(.ref r91), (.ref a6), (.int (Int32.ofNat na)), (.int (Int32.ofNat nk)), (.int 5)]) (rest := []) B at_383 (w141 hw) (w142 hw) (w7 hw) (w143 hw) (gSame hw G (i := 5) (cs := [y0, y1, y2, y3, y4, y5, y6, y7]) o122 f94 f101 hL (by simp; omega) (by omega) (by simp)) pd27 ?_
  intro vq123 h124 S125 q123 zh124
  obtain ⟨rfl, rfl, rfl⟩ := q123
  refine Ow.Go.nr (S' := [a60, a56, a6]) (st' := [(.int 1)]) ?_
  refine Ow.ifF (pc' := 389) B at_386 (by decide) ?_
  refine Ow.aload (pc' := 391) B at_389 ?_
  refine Ow.aload (pc' := 393) B at_391 ?_
  refine Ow.iload (pc' := 395) B at_393 ?_
  refine Ow.iload (pc' := 397) B at_395 ?_
  refine Ow.bipush (pc' := 399) (x := 6) B at_397 ?_
  refine Ow.Go.old (fun o126 => ?_)
  refine Ow.callStatic (pc' := 402) (W := 0) (k' := 8) (n' := 58) (argsL := [(.ref r91), (.ref a6), (.int (Int32.ofNat na)), (.int (Int32.ofNat nk)), (.int 6)]) (rest := []) B at_399 (w141 hw) (w142 hw) (w7 hw) (w143 hw) (gSame hw G (i := 6) (cs := [y0, y1, y2, y3, y4, y5, y6, y7]) o126 f94 f101 hL (by simp; omega) (by omega) (by simp)) pd27 ?_
  intro vq127 h128 S129 q127 zh128
  obtain ⟨rfl, rfl, rfl⟩ := q127
  refine Ow.Go.nr (S' := [a60, a56, a6]) (st' := [(.int 1)]) ?_
  refine Ow.ifF (pc' := 405) B at_402 (by decide) ?_
  refine Ow.aload (pc' := 407) B at_405 ?_
  refine Ow.aload (pc' := 409) B at_407 ?_
  refine Ow.iload (pc' := 411) B at_409 ?_
  refine Ow.iload (pc' := 413) B at_411 ?_
  refine Ow.bipush (pc' := 415) (x := 7) B at_413 ?_
  refine Ow.Go.old (fun o130 => ?_)
  refine Ow.callStatic (pc' := 418) (W := 0) (k' := 8) (n' := 58) (argsL := [(.ref r91), (.ref a6), (.int (Int32.ofNat na)), (.int (Int32.ofNat nk)), (.int 7)]) (rest := []) B at_415 (w141 hw) (w142 hw) (w7 hw) (w143 hw) (gSame hw G (i := 7) (cs := [y0, y1, y2, y3, y4, y5, y6, y7]) o130 f94 f101 hL (by simp; omega) (by omega) (by simp)) pd27 ?_
  intro vq131 h132 S133 q131 zh132
  obtain ⟨rfl, rfl, rfl⟩ := q131
  refine Ow.Go.nr (S' := [a60, a56, a6]) (st' := [(.int 1)]) ?_
  refine Ow.ifF (pc' := 421) B at_418 (by decide) ?_
  refine Ow.iconst (pc' := 422) (x := 1) B at_421 ?_
  refine Ow.goto (pc' := 426) B at_422 ?_
  exact Ow.retI (S' := []) (t := .boolean) B at_426 (rfl)
 ·intro J134
  refine Ow.iload (pc' := 39) B at_37 ?_
  by_cases c135 : sel = (0 : Int32)
  ·refine Ow.ifF (pc' := 42) B at_39 (teq c135).2 ?_
   refine Ow.bipush (pc' := 44) (x := 59) B at_42 ?_
   refine Ow.goto (pc' := 60) B at_44 ?_
   exact J134 ⟨(59 : Int32), by unfold sepP; decide⟩
  ·refine Ow.ifT (pc' := 47) B at_39 (feq c135).2 ?_
   refine Ow.iload (pc' := 49) B at_47 ?_
   refine Ow.iconst (pc' := 50) (x := 1) B at_49 ?_
   by_cases c136 : sel = (1 : Int32)
   ·refine Ow.icmpF (pc' := 53) B at_50 (teq c136).2 ?_
    refine Ow.bipush (pc' := 55) (x := 44) B at_53 ?_
    refine Ow.goto (pc' := 60) B at_55 ?_
    exact J134 ⟨(44 : Int32), by unfold sepP; decide⟩
   ·refine Ow.icmpT (pc' := 58) B at_50 (feq c136).2 ?_
    refine Ow.bipush (pc' := 60) (x := 58) B at_58 ?_
    exact J134 ⟨(58 : Int32), by unfold sepP; decide⟩
set_option maxRecDepth 65536 in
set_option maxHeartbeats 40000000 in
theorem comes_1 {Post : Tables → Env → Array Value → State → Outcome → State → Prop} (hpost : ∀ tb e args s v u, (limb_1_1.after args s (.returned v) u = true ∧ limb_1_2.after args s (.returned v) u = true ∧ True) → ReturnedEndW s (.returned v) u (Jvm.fieldLocs frame_1_writes args s ++ Jvm.arrayLocs frame_1_arrays args s ++ Jvm.staticLocs frame_1_statics s) 24 2240 → Post tb e args s (.returned v) u) :
    ArmFor flags0 classFile x code maxLocals ret World_1 tables_1 room_1 Calls_1 rest_1 Pre_1 Post := by
  intro l hfl _ _ p e ha hc hk s m args below hf hA hF happ hP
  obtain ⟨hcalls, hrest, hpre⟩ := hP
  obtain ⟨-, -, -, hnamed, -, -, -, hat⟩ := (Spec.applies_iff hf).mp happ
  obtain ⟨hg, hn⟩ := and_e (Cond.before_iff.mp (show (Jvm.Cond.and given_1 narrow_1).before args s = true from hpre))
  obtain ⟨g0, hg⟩ := and_e hg
  obtain ⟨w0, w1, w2, w3, rfl⟩ : ∃ w0 w1 w2 w3 : Value, args = #[w0, w1, w2, w3] := by
    have hs : args.size = 4 := by simpa [Cond.value, given_1] using g0
    obtain ⟨L⟩ := args
    match L, hs with
    | [w0, w1, w2, w3], _ => exact ⟨w0, w1, w2, w3, rfl⟩
  have hw := fun d (hd : d ∈ tables_1) => atoms_spec (ws := Jvm.Cond.code x code maxLocals ret :: tables_1) hat d (List.mem_cons_of_mem _ hd)
  have hsets := (atoms_of jdkStatics_1 (by rw [← rest_1_c_eq]; exact hrest)).1
  obtain ⟨g1, hg⟩ := and_e hg
  obtain ⟨i0, e0⟩ := is_v g1
  obtain rfl : w0 = (.int i0) := Option.some.inj e0
  obtain ⟨g2, hg⟩ := and_e hg
  obtain ⟨i1, e1⟩ := isL_v g2
  obtain rfl : w1 = (.long i1) := Option.some.inj e1
  obtain ⟨g3, hg⟩ := and_e hg
  obtain ⟨i2, e2⟩ := isL_v g3
  obtain rfl : w2 = (.long i2) := Option.some.inj e2
  have g4 := hg
  obtain ⟨i3, e3⟩ := is_v g4
  obtain rfl : w3 = (.int i3) := Option.some.inj e3
  obtain ⟨cz, ecz⟩ := is_v (Cond.before_iff.mp (hsets _ (List.mem_of_getElem? (i := 1) rfl)))
  have hcz : cz ≠ 0 := gotF (Cond.eq_ints ecz (Term.int_eval (0))) (not_v (Cond.before_iff.mp (hsets _ (List.mem_of_getElem? (i := 2) rfl))))
  obtain ⟨sf, esf, rsf⟩ := isR_v (Cond.before_iff.mp (hsets _ (List.mem_of_getElem? (i := 8) rfl)))
  have G : Ow.Glo s cz sf := ⟨Sta.start ecz (Or.inl (hsets _ (List.mem_of_getElem? (i := 0) rfl))), hcz, Sta.start esf (Or.inl (hsets _ (List.mem_of_getElem? (i := 7) rfl))), rsf⟩
  have hCH : CHv s EL1 s.vm s.heap := CHv.start (hEW hw) (fun q hq => hcalls.1 q (by simp only [List.mem_cons, List.not_mem_nil, or_false] at hq; rcases hq with rfl | rfl <;> simp [consts_1])) (hsets _ (List.mem_of_getElem? (i := 2) rfl)) (w33 hw) (w16 hw)
  obtain ⟨n, o, h1, h2, h3, v, L, S', rfl, ⟨rfl, N, -, -⟩, -, hq⟩ := lawCon hw G i0 i1 i2 i3 (Old.start s) p e ha hc hk s m _ below hf ((Spec.applies_iff_loose hf).mp happ).1 ⟨rfl, State.Warmed39.refl s, rfl, hCH, Ow.SafeL.nil⟩ trivial
  refine ⟨n, _, h1, h2, h3, hpost _ _ _ _ _ _ ⟨Cond.after_iff.mpr rfl, Cond.after_iff.mpr (eq_i res_at (Term.int_eval (1)) rfl), trivial⟩ ⟨hq.1, hq.2.1, hq.2.2.1, (hq.2.2.2.sift fun y hy => Or.inr (N y hy)).mono (by decide) (by decide)⟩⟩
theorem main_1_1 : Claimed_1_1 := comes_1 fun _ _ _ _ _ _ h hF => ⟨h.1, hF⟩
theorem main_1_2 : Claimed_1_2 := comes_1 fun _ _ _ _ _ _ h hF => ⟨h.2.1, hF⟩
end Jvm.Pilot.@@N@@
namespace Jvm.Pilot.@@N@@
open Jvm Jvm.ClassFile Sem Op Lib Jvm.Free Jvm.Stand Jvm.Pilot.@@N@@.Jvm.D
/-! MADE BY PROGRAM (witnessworld.py) out of the Statement's table words and the real class files: 24 classes; the members and pool entries that the words name. The judged class is class 1, her method 1. -/
namespace start1
open Jvm.ClassFile
def u (s : String) : CpInfo := .utf8 (stringToUtf16 s)
/-- a pool by its gaps: so many unusable entries, then the entry; so many at the end -/
def gap : Nat → List CpInfo → List CpInfo
  | 0, r => r
  | n + 1, r => .unusable :: gap n r
def poolList (es : List (Nat × CpInfo)) (last : Nat) : List CpInfo := es.foldr (fun e r => gap e.1 (e.2 :: r)) (gap last [])
def pool (es : List (Nat × CpInfo)) (last : Nat) : Array CpInfo := ⟨poolList es last⟩
def fileOf (pool : Array CpInfo) (this : Nat) (attrs : Array Attribute := #[]) (ms : Array MethodInfo := #[]) (fl : Nat := 33) (sup : Nat := 0) (ifs : Array Nat := #[]) (fds : Array FieldInfo := #[]) : ClassFile where
  minorVersion := 0
  majorVersion := 65
  constantPool := pool
  accessFlags := fl
  thisClass := this
  superClass := sup
  interfaces := ifs
  fields := fds
  methods := ms
  attributes := attrs
def plain (name : String) (sup : Option ClassId) : Class where
  name := name
  kind := .ordinary
  loader := none
  accessFlags := 33
  super := sup
  interfaces := #[]
  cf := none
  fields := #[]
  methods := #[]
  instanceTypes := #[]
  staticTypes := #[]
  resolved := #[]
  callSites := []
  init := .initialized
  statics := none
  mirror := none

def pool0 : Array CpInfo := pool [(5, u "<init>"), (0, u "()V"), (1, .class_ 10), (1, u "java/lang/Object")] 113

def k0c0 : Code := { maxStack := 0, maxLocals := 1, code := object_method_1_code, exceptionTable := #[], attributes := #[] }
def k0m0 : Method := { name := "<init>", desc := "()V", sig := { parameters := [], returnType := none }, accessFlags := 1, code := some k0c0 }
/-- java/lang/Object -/
def k0 : Class := { plain "java/lang/Object" none with
  accessFlags := 33
  interfaces := #[]
  cf := some (fileOf pool0 8 #[] #[{ accessFlags := 1, nameIndex := 5, descriptorIndex := 6, attributes := #[] }] 33 0 #[] #[])
  fields := #[]
  methods := #[k0m0]
  instanceTypes := #[]
  staticTypes := #[]
  resolved := Array.replicate 124 none
  statics := none }

def pool1 : Array CpInfo := pool [(2, .class_ 4), (1, u "java/lang/Object"), (0, u "<init>"), (0, u "()V"), (0, .methodref 8 9), (0, .class_ 10), (0, .nameAndType 11 12), (0, u "java/lang/Math"), (0, u "min"), (0, u "(II)I"), (0, .methodref 14 15), (0, .class_ 16), (0, .nameAndType 17 18), (0, u "com/example/elsewhere/elsewhere/SubfieldCleanValuePinLaw"), (0, u "pos"), (0, u "(IIIIICJJ)C"), (0, .class_ 20), (0, u "com/example/elsewhere/elsewhere/Field$Subfield"), (0, .class_ 22), (0, u "java/lang/String"), (0, .methodref 21 24), (0, .nameAndType 5 25), (0, u "([C)V"), (0, .methodref 19 27), (0, .nameAndType 5 28), (0, u "(ILjava/lang/String;)V"), (0, .methodref 19 30), (0, .nameAndType 31 32), (0, u "cleanValue"), (0, u "()Ljava/lang/String;"), (0, .methodref 21 34), (0, .nameAndType 35 36), (0, u "length"), (0, u "()I"), (0, .methodref 14 38), (0, .nameAndType 39 40), (0, u "same"), (0, u "(Ljava/lang/String;[CIII)Z"), (0, .methodref 14 42), (0, .nameAndType 43 44), (0, u "core"), (0, u "(IIIJJ)C"), (0, .methodref 21 46), (0, .nameAndType 47 48), (0, u "charAt"), (0, u "(I)C"), (2, u "law"), (0, u "(IJJI)Z")] 9

def k1m0 : Method := { name := "<init>", desc := "()V", sig := { parameters := [], returnType := none }, accessFlags := 1, code := none }
def k1c1 : Code := { maxStack := 12, maxLocals := 16, code := code, exceptionTable := #[], attributes := #[] }
def k1m1 : Method := { name := "law", desc := "(IJJI)Z", sig := { parameters := [.int, .long, .long, .int], returnType := some .boolean }, accessFlags := 9, code := some k1c1 }
def k1c2 : Code := { maxStack := 7, maxLocals := 10, code := method_3_code, exceptionTable := #[], attributes := #[] }
def k1m2 : Method := { name := "pos", desc := "(IIIIICJJ)C", sig := { parameters := [.int, .int, .int, .int, .int, .char, .long, .long], returnType := some .char }, accessFlags := 10, code := some k1c2 }
def k1c3 : Code := { maxStack := 4, maxLocals := 10, code := method_4_code, exceptionTable := #[], attributes := #[] }
def k1m3 : Method := { name := "core", desc := "(IIIJJ)C", sig := { parameters := [.int, .int, .int, .long, .long], returnType := some .char }, accessFlags := 10, code := some k1c3 }
def k1c4 : Code := { maxStack := 4, maxLocals := 5, code := method_5_code, exceptionTable := #[], attributes := #[] }
def k1m4 : Method := { name := "same", desc := "(Ljava/lang/String;[CIII)Z", sig := { parameters := [(.object "java/lang/String"), (.array .char), .int, .int, .int], returnType := some .boolean }, accessFlags := 10, code := some k1c4 }
/-- com/example/elsewhere/elsewhere/SubfieldCleanValuePinLaw -/
def k1 : Class := { plain "com/example/elsewhere/elsewhere/SubfieldCleanValuePinLaw" (some 0) with
  accessFlags := 49
  interfaces := #[]
  cf := some (fileOf pool1 14 #[] #[{ accessFlags := 1, nameIndex := 5, descriptorIndex := 6, attributes := #[] }, { accessFlags := 9, nameIndex := 51, descriptorIndex := 52, attributes := #[] }, { accessFlags := 10, nameIndex := 17, descriptorIndex := 18, attributes := #[] }, { accessFlags := 10, nameIndex := 43, descriptorIndex := 44, attributes := #[] }, { accessFlags := 10, nameIndex := 39, descriptorIndex := 40, attributes := #[] }] 49 2 #[] #[])
  fields := #[]
  methods := #[k1m0, k1m1, k1m2, k1m3, k1m4]
  instanceTypes := #[]
  staticTypes := #[]
  resolved := Array.replicate 62 none
  statics := none }

def pool2 : Array CpInfo := pool [(1, .class_ 2), (0, u "java/lang/Math"), (1, .class_ 6), (1, u "java/lang/Object"), (0, u "<init>"), (0, u "()V"), (89, .class_ 100), (1, u "java/lang/Math$RandomNumberGeneratorHolder"), (71, u "negativeZeroFloatBits"), (0, u "J"), (2, u "negativeZeroDoubleBits"), (21, u "max"), (2, u "min"), (43, u "$assertionsDisabled"), (0, u "Z"), (88, u "(II)I"), (2, u "twoToTheDoubleScaleDown"), (0, u "D"), (4, u "twoToTheDoubleScaleUp"), (9, u "E"), (3, u "PI"), (2, u "TAU"), (2, u "DEGREES_TO_RADIANS"), (0, u "RADIANS_TO_DEGREES")] 94

def k2m0 : Method := { name := "<init>", desc := "()V", sig := { parameters := [], returnType := none }, accessFlags := 2, code := none }
def k2c1 : Code := { maxStack := 2, maxLocals := 2, code := jdk_29_method_65_code, exceptionTable := #[], attributes := #[] }
def k2m1 : Method := { name := "max", desc := "(II)I", sig := { parameters := [.int, .int], returnType := some .int }, accessFlags := 9, code := some k2c1 }
def k2c2 : Code := { maxStack := 2, maxLocals := 2, code := jdk_29_method_69_code, exceptionTable := #[], attributes := #[] }
def k2m2 : Method := { name := "min", desc := "(II)I", sig := { parameters := [.int, .int], returnType := some .int }, accessFlags := 9, code := some k2c2 }
/-- java/lang/Math -/
def k2 : Class := { plain "java/lang/Math" (some 0) with
  accessFlags := 49
  interfaces := #[]
  cf := some (fileOf pool2 1 #[.nestMembers #[98]] #[{ accessFlags := 2, nameIndex := 7, descriptorIndex := 8, attributes := #[] }, { accessFlags := 9, nameIndex := 198, descriptorIndex := 335, attributes := #[] }, { accessFlags := 9, nameIndex := 201, descriptorIndex := 335, attributes := #[] }] 49 4 #[] #[{ accessFlags := 25, nameIndex := 354, descriptorIndex := 339, attributes := #[] }, { accessFlags := 25, nameIndex := 358, descriptorIndex := 339, attributes := #[] }, { accessFlags := 25, nameIndex := 361, descriptorIndex := 339, attributes := #[] }, { accessFlags := 26, nameIndex := 364, descriptorIndex := 339, attributes := #[] }, { accessFlags := 26, nameIndex := 365, descriptorIndex := 339, attributes := #[] }, { accessFlags := 26, nameIndex := 172, descriptorIndex := 173, attributes := #[] }, { accessFlags := 26, nameIndex := 176, descriptorIndex := 173, attributes := #[] }, { accessFlags := 8, nameIndex := 344, descriptorIndex := 339, attributes := #[] }, { accessFlags := 8, nameIndex := 338, descriptorIndex := 339, attributes := #[] }, { accessFlags := 4120, nameIndex := 245, descriptorIndex := 246, attributes := #[] }])
  fields := #[{ name := "E", type := .double, accessFlags := 25, slot := 0, constantValue := 0 }, { name := "PI", type := .double, accessFlags := 25, slot := 1, constantValue := 0 }, { name := "TAU", type := .double, accessFlags := 25, slot := 2, constantValue := 0 }, { name := "DEGREES_TO_RADIANS", type := .double, accessFlags := 26, slot := 3, constantValue := 0 }, { name := "RADIANS_TO_DEGREES", type := .double, accessFlags := 26, slot := 4, constantValue := 0 }, { name := "negativeZeroFloatBits", type := .long, accessFlags := 26, slot := 5, constantValue := 0 }, { name := "negativeZeroDoubleBits", type := .long, accessFlags := 26, slot := 6, constantValue := 0 }, { name := "twoToTheDoubleScaleUp", type := .double, accessFlags := 8, slot := 7, constantValue := 0 }, { name := "twoToTheDoubleScaleDown", type := .double, accessFlags := 8, slot := 8, constantValue := 0 }, { name := "$assertionsDisabled", type := .boolean, accessFlags := 4120, slot := 9, constantValue := 0 }]
  methods := #[k2m0, k2m1, k2m2]
  instanceTypes := #[]
  staticTypes := #[.double, .double, .double, .double, .double, .long, .long, .double, .double, .boolean]
  resolved := Array.replicate 460 none
  statics := none }

def pool3 : Array CpInfo := pool [(1, .methodref 2 3), (0, .class_ 4), (0, .nameAndType 5 6), (0, u "java/lang/Object"), (0, u "<init>"), (0, u "()V"), (0, .class_ 8), (0, u "java/lang/Record")] 13

def k3c0 : Code := { maxStack := 1, maxLocals := 1, code := jdk_30_method_1_code, exceptionTable := #[], attributes := #[] }
def k3m0 : Method := { name := "<init>", desc := "()V", sig := { parameters := [], returnType := none }, accessFlags := 4, code := some k3c0 }
/-- java/lang/Record -/
def k3 : Class := { plain "java/lang/Record" (some 0) with
  accessFlags := 1057
  interfaces := #[]
  cf := some (fileOf pool3 7 #[] #[{ accessFlags := 4, nameIndex := 5, descriptorIndex := 6, attributes := #[] }] 1057 2 #[] #[])
  fields := #[]
  methods := #[k3m0]
  instanceTypes := #[]
  staticTypes := #[]
  resolved := Array.replicate 22 none
  statics := none }

def pool4 : Array CpInfo := pool [(1, .methodref 2 3), (0, .class_ 4), (0, .nameAndType 5 6), (0, u "java/lang/Record"), (0, u "<init>"), (0, u "()V"), (0, .fieldref 8 9), (0, .class_ 10), (0, .nameAndType 11 12), (0, u "com/example/elsewhere/elsewhere/Field$Subfield"), (0, u "code"), (0, u "I"), (0, .fieldref 8 14), (0, .nameAndType 15 16), (0, u "value"), (0, u "Ljava/lang/String;"), (0, .methodref 18 19), (0, .class_ 20), (0, .nameAndType 21 22), (0, u "java/lang/String"), (0, u "length"), (0, u "()I"), (0, .methodref 18 24), (0, .nameAndType 25 26), (0, u "charAt"), (0, u "(I)C"), (0, .methodref 8 28), (0, .nameAndType 29 30), (0, u "endBeforeSpaces"), (0, u "(II)I"), (0, .methodref 8 32), (0, .nameAndType 33 30), (0, u "endBeforeSeparator"), (0, .methodref 18 35), (0, .nameAndType 36 37), (0, u "substring"), (0, u "(II)Ljava/lang/String;"), (0, .string 39), (0, u ";,:"), (0, .methodref 18 41), (0, .nameAndType 42 43), (0, u "indexOf"), (0, u "(I)I"), (12, u "(ILjava/lang/String;)V"), (3, u "cleanValue"), (0, u "()Ljava/lang/String;"), (6, .class_ 69), (0, u "com/example/elsewhere/elsewhere/Field")] 20

def k4c0 : Code := { maxStack := 2, maxLocals := 3, code := prog_11_method_1_code, exceptionTable := #[], attributes := #[] }
def k4m0 : Method := { name := "<init>", desc := "(ILjava/lang/String;)V", sig := { parameters := [.int, (.object "java/lang/String")], returnType := none }, accessFlags := 1, code := some k4c0 }
def k4c1 : Code := { maxStack := 5, maxLocals := 3, code := prog_11_method_2_code, exceptionTable := #[], attributes := #[] }
def k4m1 : Method := { name := "cleanValue", desc := "()Ljava/lang/String;", sig := { parameters := [], returnType := some (.object "java/lang/String") }, accessFlags := 0, code := some k4c1 }
def k4c2 : Code := { maxStack := 4, maxLocals := 3, code := prog_11_method_4_code, exceptionTable := #[], attributes := #[] }
def k4m2 : Method := { name := "endBeforeSeparator", desc := "(II)I", sig := { parameters := [.int, .int], returnType := some .int }, accessFlags := 2, code := some k4c2 }
def k4c3 : Code := { maxStack := 3, maxLocals := 4, code := prog_11_method_5_code, exceptionTable := #[], attributes := #[] }
def k4m3 : Method := { name := "endBeforeSpaces", desc := "(II)I", sig := { parameters := [.int, .int], returnType := some .int }, accessFlags := 2, code := some k4c3 }
/-- com/example/elsewhere/elsewhere/Field$Subfield -/
def k4 : Class := { plain "com/example/elsewhere/elsewhere/Field$Subfield" (some 3) with
  accessFlags := 49
  interfaces := #[]
  cf := some (fileOf pool4 8 #[.nestHost 68] #[{ accessFlags := 1, nameIndex := 5, descriptorIndex := 56, attributes := #[] }, { accessFlags := 0, nameIndex := 60, descriptorIndex := 61, attributes := #[] }, { accessFlags := 2, nameIndex := 33, descriptorIndex := 30, attributes := #[] }, { accessFlags := 2, nameIndex := 29, descriptorIndex := 30, attributes := #[] }] 49 2 #[] #[{ accessFlags := 18, nameIndex := 11, descriptorIndex := 12, attributes := #[] }, { accessFlags := 18, nameIndex := 15, descriptorIndex := 16, attributes := #[] }])
  fields := #[{ name := "code", type := .int, accessFlags := 18, slot := 0, constantValue := 0 }, { name := "value", type := (.object "java/lang/String"), accessFlags := 18, slot := 1, constantValue := 0 }]
  methods := #[k4m0, k4m1, k4m2, k4m3]
  instanceTypes := #[.int, (.object "java/lang/String")]
  staticTypes := #[]
  resolved := Array.replicate 90 none
  statics := none }

def pool5 : Array CpInfo := pool [(1, .class_ 2), (0, u "java/io/Serializable"), (0, .class_ 4), (0, u "java/lang/Object")] 2

/-- java/io/Serializable -/
def k5 : Class := { plain "java/io/Serializable" (some 0) with
  accessFlags := 1537
  interfaces := #[]
  cf := some (fileOf pool5 1 #[] #[] 1537 3 #[] #[])
  fields := #[]
  methods := #[]
  instanceTypes := #[]
  staticTypes := #[]
  resolved := Array.replicate 7 none
  statics := none }

def pool6 : Array CpInfo := pool [(1, .class_ 2), (0, u "java/lang/Comparable"), (0, .class_ 4), (0, u "java/lang/Object")] 7

/-- java/lang/Comparable -/
def k6 : Class := { plain "java/lang/Comparable" (some 0) with
  accessFlags := 1537
  interfaces := #[]
  cf := some (fileOf pool6 1 #[] #[] 1537 3 #[] #[])
  fields := #[]
  methods := #[]
  instanceTypes := #[]
  staticTypes := #[]
  resolved := Array.replicate 12 none
  statics := none }

def pool7 : Array CpInfo := pool [(2, .class_ 4), (1, u "java/lang/CharSequence"), (42, .class_ 48), (0, u "java/lang/CharSequence$1CodePointIterator"), (10, .class_ 60), (0, u "java/lang/CharSequence$1CharIterator"), (5, .class_ 67), (0, u "java/lang/Object")] 63

/-- java/lang/CharSequence -/
def k7 : Class := { plain "java/lang/CharSequence" (some 0) with
  accessFlags := 1537
  interfaces := #[]
  cf := some (fileOf pool7 2 #[.nestMembers #[47, 59]] #[] 1537 66 #[] #[])
  fields := #[]
  methods := #[]
  instanceTypes := #[]
  staticTypes := #[]
  resolved := Array.replicate 131 none
  statics := none }

def pool8 : Array CpInfo := pool [(1, .class_ 2), (0, u "java/lang/constant/Constable"), (0, .class_ 4), (0, u "java/lang/Object")] 6

/-- java/lang/constant/Constable -/
def k8 : Class := { plain "java/lang/constant/Constable" (some 0) with
  accessFlags := 1537
  interfaces := #[]
  cf := some (fileOf pool8 1 #[] #[] 1537 3 #[] #[])
  fields := #[]
  methods := #[]
  instanceTypes := #[]
  staticTypes := #[]
  resolved := Array.replicate 11 none
  statics := none }

def pool9 : Array CpInfo := pool [(1, .class_ 2), (0, u "java/lang/constant/ConstantDesc"), (0, .class_ 4), (0, u "java/lang/Object")] 32

/-- java/lang/constant/ConstantDesc -/
def k9 : Class := { plain "java/lang/constant/ConstantDesc" (some 0) with
  accessFlags := 1537
  interfaces := #[]
  cf := some (fileOf pool9 1 #[] #[] 1537 3 #[] #[])
  fields := #[]
  methods := #[]
  instanceTypes := #[]
  staticTypes := #[]
  resolved := Array.replicate 37 none
  statics := none }

def pool10 : Array CpInfo := pool [(1, .methodref 2 3), (0, .class_ 4), (0, .nameAndType 5 6), (0, u "java/lang/Object"), (0, u "<init>"), (0, u "()V"), (2, .fieldref 10 11), (0, .class_ 12), (0, .nameAndType 13 14), (0, u "java/lang/String"), (0, u "value"), (0, u "[B"), (0, .fieldref 10 16), (0, .nameAndType 17 18), (0, u "coder"), (0, u "B"), (2, u "hash"), (0, u "I"), (2, u "hashIsZero"), (0, u "Z"), (0, .methodref 10 28), (0, .nameAndType 5 29), (0, u "([CIILjava/lang/Void;)V"), (8, .fieldref 10 39), (0, .nameAndType 40 26), (0, u "COMPACT_STRINGS"), (1, .class_ 44), (1, u "java/lang/StringUTF16"), (0, u "compress"), (1, .methodref 42 48), (0, .nameAndType 49 50), (0, u "coderFromArrayLen"), (0, u "([BI)B"), (56, .class_ 109), (1, u "java/lang/StringLatin1"), (32, u "()Z"), (34, .methodref 42 178), (0, .nameAndType 45 179), (0, u "([CII)[B"), (31, u "([BB)V"), (122, u "()I"), (0, .methodref 10 336), (0, .nameAndType 17 337), (0, u "()B"), (25, u "([BI)C"), (27, u "(II)V"), (35, u "(I)C"), (64, .methodref 10 493), (0, .nameAndType 494 142), (0, u "isLatin1"), (0, .methodref 107 496), (0, .nameAndType 497 363), (0, u "charAt"), (3, u "checkIndex"), (3, .methodref 10 506), (0, .nameAndType 507 334), (0, u "length"), (5, u "checkFromToIndex"), (7, .methodref 10 522), (0, .nameAndType 523 524), (0, u "checkBoundsBeginEnd"), (0, u "(III)V"), (50, .class_ 576), (0, u "java/lang/CharSequence"), (22, u "CASE_INSENSITIVE_ORDER"), (0, u "Ljava/util/Comparator;"), (32, .methodref 10 634), (0, .nameAndType 635 636), (0, u "indexOf"), (0, u "(II)I"), (0, .methodref 107 638), (0, .nameAndType 635 639), (0, u "([BIII)I"), (43, u "substring"), (0, u "(II)Ljava/lang/String;"), (0, .methodref 107 686), (0, .nameAndType 687 688), (0, u "newString"), (0, u "([BII)Ljava/lang/String;"), (76, u "(I)I"), (244, u "([C)V"), (42, .fieldref 1054 1055), (0, .class_ 1056), (0, .nameAndType 1057 1058), (0, u "jdk/internal/util/Preconditions"), (0, u "SIOOBE_FORMATTER"), (0, u "Ljava/util/function/BiFunction;"), (0, .methodref 1054 1060), (0, .nameAndType 501 1061), (0, u "(IILjava/util/function/BiFunction;)I"), (0, .methodref 1054 1063), (0, .nameAndType 513 1064), (0, u "(IIILjava/util/function/BiFunction;)I"), (36, u "serialPersistentFields"), (0, u "[Ljava/io/ObjectStreamField;"), (0, .class_ 1104), (0, u "java/lang/String$CaseInsensitiveComparator"), (1, .class_ 1107), (0, u "java/io/Serializable"), (0, .class_ 1109), (0, u "java/lang/Comparable"), (0, .class_ 1111), (0, u "java/lang/constant/Constable"), (0, .class_ 1113), (0, u "java/lang/constant/ConstantDesc"), (2, u "serialVersionUID"), (0, u "J"), (3, u "REPL"), (0, u "C"), (2, u "LATIN1"), (1, u "UTF16")] 323

def k10m0 : Method := { name := "<init>", desc := "()V", sig := { parameters := [], returnType := none }, accessFlags := 1, code := none }
def k10c1 : Code := { maxStack := 5, maxLocals := 2, code := jdk_42_method_3_code, exceptionTable := #[], attributes := #[] }
def k10m1 : Method := { name := "<init>", desc := "([C)V", sig := { parameters := [(.array .char)], returnType := none }, accessFlags := 1, code := some k10c1 }
def k10c2 : Code := { maxStack := 2, maxLocals := 1, code := jdk_42_method_54_code, exceptionTable := #[], attributes := #[] }
def k10m2 : Method := { name := "length", desc := "()I", sig := { parameters := [], returnType := some .int }, accessFlags := 1, code := some k10c2 }
def k10c3 : Code := { maxStack := 2, maxLocals := 2, code := jdk_42_method_56_code, exceptionTable := #[], attributes := #[] }
def k10m3 : Method := { name := "charAt", desc := "(I)C", sig := { parameters := [.int], returnType := some .char }, accessFlags := 1, code := some k10c3 }
def k10c4 : Code := { maxStack := 3, maxLocals := 2, code := jdk_42_method_79_code, exceptionTable := #[], attributes := #[] }
def k10m4 : Method := { name := "indexOf", desc := "(I)I", sig := { parameters := [.int], returnType := some .int }, accessFlags := 1, code := some k10c4 }
def k10c5 : Code := { maxStack := 4, maxLocals := 3, code := jdk_42_method_80_code, exceptionTable := #[], attributes := #[] }
def k10m5 : Method := { name := "indexOf", desc := "(II)I", sig := { parameters := [.int, .int], returnType := some .int }, accessFlags := 1, code := some k10c5 }
def k10c6 : Code := { maxStack := 3, maxLocals := 5, code := jdk_42_method_92_code, exceptionTable := #[], attributes := #[] }
def k10m6 : Method := { name := "substring", desc := "(II)Ljava/lang/String;", sig := { parameters := [.int, .int], returnType := some (.object "java/lang/String") }, accessFlags := 1, code := some k10c6 }
def k10c7 : Code := { maxStack := 4, maxLocals := 6, code := jdk_42_method_149_code, exceptionTable := #[], attributes := #[] }
def k10m7 : Method := { name := "<init>", desc := "([CIILjava/lang/Void;)V", sig := { parameters := [(.array .char), .int, .int, (.object "java/lang/Void")], returnType := none }, accessFlags := 2, code := some k10c7 }
def k10c8 : Code := { maxStack := 2, maxLocals := 3, code := jdk_42_method_151_code, exceptionTable := #[], attributes := #[] }
def k10m8 : Method := { name := "<init>", desc := "([BB)V", sig := { parameters := [(.array .byte), .byte], returnType := none }, accessFlags := 0, code := some k10c8 }
def k10c9 : Code := { maxStack := 1, maxLocals := 1, code := jdk_42_method_152_code, exceptionTable := #[], attributes := #[] }
def k10m9 : Method := { name := "coder", desc := "()B", sig := { parameters := [], returnType := some .byte }, accessFlags := 0, code := some k10c9 }
def k10c10 : Code := { maxStack := 1, maxLocals := 1, code := jdk_42_method_154_code, exceptionTable := #[], attributes := #[] }
def k10m10 : Method := { name := "isLatin1", desc := "()Z", sig := { parameters := [], returnType := some .boolean }, accessFlags := 0, code := some k10c10 }
def k10c11 : Code := { maxStack := 3, maxLocals := 2, code := jdk_42_method_155_code, exceptionTable := #[], attributes := #[] }
def k10m11 : Method := { name := "checkIndex", desc := "(II)V", sig := { parameters := [.int, .int], returnType := none }, accessFlags := 8, code := some k10c11 }
def k10c12 : Code := { maxStack := 4, maxLocals := 3, code := jdk_42_method_158_code, exceptionTable := #[], attributes := #[] }
def k10m12 : Method := { name := "checkBoundsBeginEnd", desc := "(III)V", sig := { parameters := [.int, .int, .int], returnType := none }, accessFlags := 8, code := some k10c12 }
/-- java/lang/String -/
def k10 : Class := { plain "java/lang/String" (some 0) with
  accessFlags := 49
  interfaces := #[5, 6, 7, 8, 9]
  cf := some (fileOf pool10 10 #[.nestMembers #[1103]] #[{ accessFlags := 1, nameIndex := 5, descriptorIndex := 6, attributes := #[] }, { accessFlags := 1, nameIndex := 5, descriptorIndex := 1010, attributes := #[] }, { accessFlags := 1, nameIndex := 507, descriptorIndex := 334, attributes := #[] }, { accessFlags := 1, nameIndex := 497, descriptorIndex := 427, attributes := #[] }, { accessFlags := 1, nameIndex := 635, descriptorIndex := 765, attributes := #[] }, { accessFlags := 1, nameIndex := 635, descriptorIndex := 636, attributes := #[] }, { accessFlags := 1, nameIndex := 683, descriptorIndex := 684, attributes := #[] }, { accessFlags := 2, nameIndex := 5, descriptorIndex := 29, attributes := #[] }, { accessFlags := 0, nameIndex := 5, descriptorIndex := 211, attributes := #[] }, { accessFlags := 0, nameIndex := 17, descriptorIndex := 337, attributes := #[] }, { accessFlags := 0, nameIndex := 494, descriptorIndex := 142, attributes := #[] }, { accessFlags := 8, nameIndex := 501, descriptorIndex := 391, attributes := #[] }, { accessFlags := 8, nameIndex := 523, descriptorIndex := 524, attributes := #[] }] 49 2 #[1106, 1108, 575, 1110, 1112] #[{ accessFlags := 18, nameIndex := 13, descriptorIndex := 14, attributes := #[] }, { accessFlags := 18, nameIndex := 17, descriptorIndex := 18, attributes := #[] }, { accessFlags := 2, nameIndex := 21, descriptorIndex := 22, attributes := #[] }, { accessFlags := 2, nameIndex := 25, descriptorIndex := 26, attributes := #[] }, { accessFlags := 26, nameIndex := 1116, descriptorIndex := 1117, attributes := #[] }, { accessFlags := 24, nameIndex := 40, descriptorIndex := 26, attributes := #[] }, { accessFlags := 26, nameIndex := 1101, descriptorIndex := 1102, attributes := #[] }, { accessFlags := 26, nameIndex := 1121, descriptorIndex := 1122, attributes := #[] }, { accessFlags := 25, nameIndex := 599, descriptorIndex := 600, attributes := #[] }, { accessFlags := 24, nameIndex := 1125, descriptorIndex := 18, attributes := #[] }, { accessFlags := 24, nameIndex := 1127, descriptorIndex := 18, attributes := #[] }])
  fields := #[{ name := "value", type := (.array .byte), accessFlags := 18, slot := 0, constantValue := 0 }, { name := "coder", type := .byte, accessFlags := 18, slot := 1, constantValue := 0 }, { name := "hash", type := .int, accessFlags := 2, slot := 2, constantValue := 0 }, { name := "hashIsZero", type := .boolean, accessFlags := 2, slot := 3, constantValue := 0 }, { name := "serialVersionUID", type := .long, accessFlags := 26, slot := 0, constantValue := 0 }, { name := "COMPACT_STRINGS", type := .boolean, accessFlags := 24, slot := 1, constantValue := 0 }, { name := "serialPersistentFields", type := (.array (.object "java/io/ObjectStreamField")), accessFlags := 26, slot := 2, constantValue := 0 }, { name := "REPL", type := .char, accessFlags := 26, slot := 3, constantValue := 0 }, { name := "CASE_INSENSITIVE_ORDER", type := (.object "java/util/Comparator"), accessFlags := 25, slot := 4, constantValue := 0 }, { name := "LATIN1", type := .byte, accessFlags := 24, slot := 5, constantValue := 0 }, { name := "UTF16", type := .byte, accessFlags := 24, slot := 6, constantValue := 0 }]
  methods := #[k10m0, k10m1, k10m2, k10m3, k10m4, k10m5, k10m6, k10m7, k10m8, k10m9, k10m10, k10m11, k10m12]
  instanceTypes := #[(.array .byte), .byte, .int, .boolean]
  staticTypes := #[.long, .boolean, (.array (.object "java/io/ObjectStreamField")), .char, (.object "java/util/Comparator"), .byte, .byte]
  resolved := Array.replicate 1451 none
  statics := some 0 }

def pool11 : Array CpInfo := pool [(6, .class_ 8), (1, u "java/lang/Object"), (0, u "<init>"), (0, u "()V"), (1, .class_ 14), (1, u "java/lang/StringUTF16"), (31, u "$assertionsDisabled"), (0, u "Z"), (13, u "HI_BYTE_SHIFT"), (0, u "I"), (2, u "LO_BYTE_SHIFT"), (49, .methodref 12 116), (0, .nameAndType 117 118), (0, u "compress"), (0, u "([CI[BII)I"), (3, u "([CII)[B"), (138, u "coderFromArrayLen"), (0, u "([BI)B"), (106, .class_ 371), (1, u "java/lang/StringUTF16$LinesSpliterator"), (58, u "MAX_LENGTH"), (196, .class_ 628), (0, u "java/lang/StringUTF16$CodePointsSpliterator"), (0, .class_ 630), (0, u "java/lang/StringUTF16$CharsSpliterator")] 4

def k11m0 : Method := { name := "<init>", desc := "()V", sig := { parameters := [], returnType := none }, accessFlags := 0, code := none }
def k11c1 : Code := { maxStack := 2, maxLocals := 2, code := jdk_52_method_15_code, exceptionTable := #[], attributes := #[] }
def k11m1 : Method := { name := "coderFromArrayLen", desc := "([BI)B", sig := { parameters := [(.array .byte), .int], returnType := some .byte }, accessFlags := 8, code := some k11c1 }
def k11c2 : Code := { maxStack := 5, maxLocals := 6, code := jdk_52_method_16_code, exceptionTable := #[], attributes := #[] }
def k11m2 : Method := { name := "compress", desc := "([CII)[B", sig := { parameters := [(.array .char), .int, .int], returnType := some (.array .byte) }, accessFlags := 9, code := some k11c2 }
def k11c3 : Code := { maxStack := 3, maxLocals := 7, code := jdk_52_method_21_code, exceptionTable := #[], attributes := #[] }
def k11m3 : Method := { name := "compress", desc := "([CI[BII)I", sig := { parameters := [(.array .char), .int, (.array .byte), .int, .int], returnType := some .int }, accessFlags := 9, code := some k11c3 }
/-- java/lang/StringUTF16 -/
def k11 : Class := { plain "java/lang/StringUTF16" (some 0) with
  accessFlags := 48
  interfaces := #[]
  cf := some (fileOf pool11 12 #[.nestMembers #[627, 629, 369]] #[{ accessFlags := 0, nameIndex := 9, descriptorIndex := 10, attributes := #[] }, { accessFlags := 8, nameIndex := 261, descriptorIndex := 262, attributes := #[] }, { accessFlags := 9, nameIndex := 117, descriptorIndex := 122, attributes := #[] }, { accessFlags := 9, nameIndex := 117, descriptorIndex := 118, attributes := #[] }] 48 6 #[] #[{ accessFlags := 26, nameIndex := 61, descriptorIndex := 62, attributes := #[] }, { accessFlags := 26, nameIndex := 65, descriptorIndex := 62, attributes := #[] }, { accessFlags := 24, nameIndex := 430, descriptorIndex := 62, attributes := #[] }, { accessFlags := 4120, nameIndex := 46, descriptorIndex := 47, attributes := #[] }])
  fields := #[{ name := "HI_BYTE_SHIFT", type := .int, accessFlags := 26, slot := 0, constantValue := 0 }, { name := "LO_BYTE_SHIFT", type := .int, accessFlags := 26, slot := 1, constantValue := 0 }, { name := "MAX_LENGTH", type := .int, accessFlags := 24, slot := 2, constantValue := 0 }, { name := "$assertionsDisabled", type := .boolean, accessFlags := 4120, slot := 3, constantValue := 0 }]
  methods := #[k11m0, k11m1, k11m2, k11m3]
  instanceTypes := #[]
  staticTypes := #[.int, .int, .int, .boolean]
  resolved := Array.replicate 635 none
  statics := none }

def pool12 : Array CpInfo := pool [(1, .class_ 2), (0, u "java/lang/String"), (1, .class_ 6), (1, u "java/lang/Object"), (0, u "<init>"), (0, u "()V"), (0, .methodref 1 10), (0, .nameAndType 11 12), (0, u "checkIndex"), (0, u "(II)V"), (1, .class_ 16), (1, u "java/lang/StringLatin1"), (21, .methodref 39 40), (0, .class_ 41), (0, .nameAndType 42 43), (0, u "java/lang/Math"), (0, u "min"), (0, u "(II)I"), (9, u "([BI)C"), (34, .methodref 14 89), (0, .nameAndType 90 91), (0, u "canEncode"), (0, u "(I)Z"), (0, .methodref 39 93), (0, .nameAndType 94 43), (0, u "max"), (0, .methodref 14 96), (0, .nameAndType 97 98), (0, u "indexOfChar"), (0, u "([BIII)I"), (2, u "indexOf"), (10, .methodref 1 113), (0, .nameAndType 7 114), (0, u "([BB)V"), (6, u "$assertionsDisabled"), (0, u "Z"), (8, .class_ 133), (1, u "java/util/Arrays"), (17, .string 152), (0, u ""), (43, u "newString"), (0, u "([BII)Ljava/lang/String;"), (23, .class_ 223), (1, u "java/lang/StringLatin1$LinesSpliterator"), (8, .methodref 131 233), (0, .nameAndType 234 235), (0, u "copyOfRange"), (0, u "([BII)[B"), (16, u "charAt"), (137, .class_ 391), (0, u "java/lang/StringLatin1$CharsSpliterator")] 3

def k12m0 : Method := { name := "<init>", desc := "()V", sig := { parameters := [], returnType := none }, accessFlags := 0, code := none }
def k12c1 : Code := { maxStack := 2, maxLocals := 2, code := jdk_43_method_2_code, exceptionTable := #[], attributes := #[] }
def k12m1 : Method := { name := "charAt", desc := "([BI)C", sig := { parameters := [(.array .byte), .int], returnType := some .char }, accessFlags := 9, code := some k12c1 }
def k12c2 : Code := { maxStack := 2, maxLocals := 1, code := jdk_43_method_4_code, exceptionTable := #[], attributes := #[] }
def k12m2 : Method := { name := "canEncode", desc := "(I)Z", sig := { parameters := [.int], returnType := some .boolean }, accessFlags := 9, code := some k12c2 }
def k12c3 : Code := { maxStack := 4, maxLocals := 4, code := jdk_43_method_22_code, exceptionTable := #[], attributes := #[] }
def k12m3 : Method := { name := "indexOf", desc := "([BIII)I", sig := { parameters := [(.array .byte), .int, .int, .int], returnType := some .int }, accessFlags := 9, code := some k12c3 }
def k12c4 : Code := { maxStack := 2, maxLocals := 6, code := jdk_43_method_23_code, exceptionTable := #[], attributes := #[] }
def k12m4 : Method := { name := "indexOfChar", desc := "([BIII)I", sig := { parameters := [(.array .byte), .int, .int, .int], returnType := some .int }, accessFlags := 10, code := some k12c4 }
def k12c5 : Code := { maxStack := 6, maxLocals := 3, code := jdk_43_method_47_code, exceptionTable := #[], attributes := #[] }
def k12m5 : Method := { name := "newString", desc := "([BII)Ljava/lang/String;", sig := { parameters := [(.array .byte), .int, .int], returnType := some (.object "java/lang/String") }, accessFlags := 9, code := some k12c5 }
/-- java/lang/StringLatin1 -/
def k12 : Class := { plain "java/lang/StringLatin1" (some 0) with
  accessFlags := 48
  interfaces := #[]
  cf := some (fileOf pool12 14 #[.nestMembers #[390, 221]] #[{ accessFlags := 0, nameIndex := 7, descriptorIndex := 8, attributes := #[] }, { accessFlags := 9, nameIndex := 252, descriptorIndex := 53, attributes := #[] }, { accessFlags := 9, nameIndex := 90, descriptorIndex := 91, attributes := #[] }, { accessFlags := 9, nameIndex := 101, descriptorIndex := 98, attributes := #[] }, { accessFlags := 10, nameIndex := 97, descriptorIndex := 98, attributes := #[] }, { accessFlags := 9, nameIndex := 196, descriptorIndex := 197, attributes := #[] }] 48 4 #[] #[{ accessFlags := 4120, nameIndex := 121, descriptorIndex := 122, attributes := #[] }])
  fields := #[{ name := "$assertionsDisabled", type := .boolean, accessFlags := 4120, slot := 0, constantValue := 0 }]
  methods := #[k12m0, k12m1, k12m2, k12m3, k12m4, k12m5]
  instanceTypes := #[]
  staticTypes := #[.boolean]
  resolved := Array.replicate 395 none
  statics := none }

def pool13 : Array CpInfo := pool [(2, .class_ 4), (1, u "java/lang/Object"), (0, u "<init>"), (0, u "()V"), (17, .class_ 26), (1, u "jdk/internal/util/Preconditions"), (6, u "checkIndex"), (13, u "checkFromToIndex"), (7, .class_ 56), (0, u "jdk/internal/util/Preconditions$4"), (57, .class_ 115), (0, u "jdk/internal/util/Preconditions$1"), (7, u "SIOOBE_FORMATTER"), (0, u "Ljava/util/function/BiFunction;"), (0, .class_ 126), (0, u "jdk/internal/util/Preconditions$2"), (3, u "AIOOBE_FORMATTER"), (0, .class_ 132), (0, u "jdk/internal/util/Preconditions$3"), (3, u "IOOBE_FORMATTER"), (41, u "(IILjava/util/function/BiFunction;)I"), (4, u "(IIILjava/util/function/BiFunction;)I")] 10

def k13m0 : Method := { name := "<init>", desc := "()V", sig := { parameters := [], returnType := none }, accessFlags := 1, code := none }
def k13c1 : Code := { maxStack := 3, maxLocals := 3, code := jdk_41_method_11_code, exceptionTable := #[], attributes := #[] }
def k13m1 : Method := { name := "checkIndex", desc := "(IILjava/util/function/BiFunction;)I", sig := { parameters := [.int, .int, (.object "java/util/function/BiFunction")], returnType := some .int }, accessFlags := 9, code := some k13c1 }
def k13c2 : Code := { maxStack := 4, maxLocals := 4, code := jdk_41_method_12_code, exceptionTable := #[], attributes := #[] }
def k13m2 : Method := { name := "checkFromToIndex", desc := "(IIILjava/util/function/BiFunction;)I", sig := { parameters := [.int, .int, .int, (.object "java/util/function/BiFunction")], returnType := some .int }, accessFlags := 9, code := some k13c2 }
/-- jdk/internal/util/Preconditions -/
def k13 : Class := { plain "jdk/internal/util/Preconditions" (some 0) with
  accessFlags := 33
  interfaces := #[]
  cf := some (fileOf pool13 24 #[.nestMembers #[55, 131, 125, 114]] #[{ accessFlags := 1, nameIndex := 5, descriptorIndex := 6, attributes := #[] }, { accessFlags := 9, nameIndex := 33, descriptorIndex := 178, attributes := #[] }, { accessFlags := 9, nameIndex := 47, descriptorIndex := 183, attributes := #[] }] 33 2 #[] #[{ accessFlags := 25, nameIndex := 123, descriptorIndex := 124, attributes := #[] }, { accessFlags := 25, nameIndex := 130, descriptorIndex := 124, attributes := #[] }, { accessFlags := 25, nameIndex := 136, descriptorIndex := 124, attributes := #[] }])
  fields := #[{ name := "SIOOBE_FORMATTER", type := (.object "java/util/function/BiFunction"), accessFlags := 25, slot := 0, constantValue := 0 }, { name := "AIOOBE_FORMATTER", type := (.object "java/util/function/BiFunction"), accessFlags := 25, slot := 1, constantValue := 0 }, { name := "IOOBE_FORMATTER", type := (.object "java/util/function/BiFunction"), accessFlags := 25, slot := 2, constantValue := 0 }]
  methods := #[k13m0, k13m1, k13m2]
  instanceTypes := #[]
  staticTypes := #[(.object "java/util/function/BiFunction"), (.object "java/util/function/BiFunction"), (.object "java/util/function/BiFunction")]
  resolved := Array.replicate 194 none
  statics := some 1 }

def pool14 : Array CpInfo := pool [(2, .class_ 4), (1, u "java/lang/Object"), (0, u "<init>"), (0, u "()V"), (7, .class_ 16), (1, u "java/util/Arrays"), (57, .class_ 76), (1, u "java/util/Arrays$NaturalOrder"), (36, .class_ 115), (1, u "java/util/Arrays$LegacyMergeSort"), (1, u "Z"), (21, u "copyOfRange"), (10, .methodref 151 152), (0, .class_ 153), (0, .nameAndType 154 155), (0, u "java/lang/System"), (0, u "arraycopy"), (0, u "(Ljava/lang/Object;ILjava/lang/Object;II)V"), (148, .methodref 305 306), (0, .class_ 307), (0, .nameAndType 308 309), (0, u "java/lang/Math"), (0, u "min"), (0, u "(II)I"), (29, .methodref 14 340), (0, .nameAndType 341 342), (0, u "copyOfRangeByte"), (0, u "([BII)[B"), (0, .methodref 14 344), (0, .nameAndType 345 346), (0, u "checkLength"), (0, u "(II)V"), (28, .class_ 376), (0, u "java/util/Arrays$ArrayList"), (68, u "$assertionsDisabled"), (269, u "MIN_ARRAY_SORT_GRAN"), (0, u "I"), (2, u "INSERTIONSORT_THRESHOLD"), (255, .class_ 976), (0, u "java/util/Arrays$ArrayItr")] 52

def k14m0 : Method := { name := "<init>", desc := "()V", sig := { parameters := [], returnType := none }, accessFlags := 2, code := none }
def k14c1 : Code := { maxStack := 4, maxLocals := 2, code := jdk_65_method_131_code, exceptionTable := #[], attributes := #[] }
def k14m1 : Method := { name := "checkLength", desc := "(II)V", sig := { parameters := [.int, .int], returnType := none }, accessFlags := 10, code := some k14c1 }
def k14c2 : Code := { maxStack := 3, maxLocals := 3, code := jdk_65_method_132_code, exceptionTable := #[], attributes := #[] }
def k14m2 : Method := { name := "copyOfRange", desc := "([BII)[B", sig := { parameters := [(.array .byte), .int, .int], returnType := some (.array .byte) }, accessFlags := 9, code := some k14c2 }
def k14c3 : Code := { maxStack := 6, maxLocals := 5, code := jdk_65_method_133_code, exceptionTable := #[], attributes := #[] }
def k14m3 : Method := { name := "copyOfRangeByte", desc := "([BII)[B", sig := { parameters := [(.array .byte), .int, .int], returnType := some (.array .byte) }, accessFlags := 10, code := some k14c3 }
/-- java/util/Arrays -/
def k14 : Class := { plain "java/util/Arrays" (some 0) with
  accessFlags := 49
  interfaces := #[]
  cf := some (fileOf pool14 14 #[.nestMembers #[975, 375, 113, 74]] #[{ accessFlags := 2, nameIndex := 5, descriptorIndex := 6, attributes := #[] }, { accessFlags := 10, nameIndex := 345, descriptorIndex := 346, attributes := #[] }, { accessFlags := 9, nameIndex := 139, descriptorIndex := 342, attributes := #[] }, { accessFlags := 10, nameIndex := 341, descriptorIndex := 342, attributes := #[] }] 49 2 #[] #[{ accessFlags := 26, nameIndex := 715, descriptorIndex := 716, attributes := #[] }, { accessFlags := 26, nameIndex := 719, descriptorIndex := 716, attributes := #[] }, { accessFlags := 4120, nameIndex := 445, descriptorIndex := 117, attributes := #[] }])
  fields := #[{ name := "MIN_ARRAY_SORT_GRAN", type := .int, accessFlags := 26, slot := 0, constantValue := 0 }, { name := "INSERTIONSORT_THRESHOLD", type := .int, accessFlags := 26, slot := 1, constantValue := 0 }, { name := "$assertionsDisabled", type := .boolean, accessFlags := 4120, slot := 2, constantValue := 0 }]
  methods := #[k14m0, k14m1, k14m2, k14m3]
  instanceTypes := #[]
  staticTypes := #[.int, .int, .boolean]
  resolved := Array.replicate 1029 none
  statics := none }

def pool15 : Array CpInfo := pool [(2, .class_ 4), (1, u "java/lang/Object"), (0, u "<init>"), (0, u "()V"), (1, .class_ 10), (1, u "java/lang/System"), (0, u "allowSecurityManager"), (0, u "I"), (16, u "cons"), (0, u "Ljava/io/Console;"), (77, .class_ 110), (1, u "java/lang/System$CallersHolder"), (43, u "initialErrStream"), (0, u "Ljava/io/PrintStream;"), (19, u "security"), (0, u "Ljava/lang/SecurityManager;"), (31, .class_ 209), (0, u "java/lang/System$1"), (7, u "props"), (0, u "Ljava/util/Properties;"), (2, u "lineSeparator"), (0, u "Ljava/lang/String;"), (96, .class_ 321), (1, u "java/lang/System$LoggerFinder"), (5, .class_ 328), (0, u "java/lang/System$Logger"), (67, u "err"), (2, u "out"), (91, u "notSupportedJnuEncoding"), (15, u "in"), (17, u "initialIn"), (0, u "Ljava/io/InputStream;"), (35, u "bootLayer"), (0, u "Ljava/lang/ModuleLayer;"), (99, .class_ 664), (0, u "java/lang/System$2"), (9, u "NEVER"), (2, u "MAYBE"), (49, u "arraycopy"), (0, u "(Ljava/lang/Object;ILjava/lang/Object;II)V"), (72, .class_ 802), (0, u "java/lang/System$Logger$Level")] 31

def k15m0 : Method := { name := "<init>", desc := "()V", sig := { parameters := [], returnType := none }, accessFlags := 2, code := none }
def k15m1 : Method := { name := "arraycopy", desc := "(Ljava/lang/Object;ILjava/lang/Object;II)V", sig := { parameters := [(.object "java/lang/Object"), .int, (.object "java/lang/Object"), .int, .int], returnType := none }, accessFlags := 265, code := none }
/-- java/lang/System -/
def k15 : Class := { plain "java/lang/System" (some 0) with
  accessFlags := 49
  interfaces := #[]
  cf := some (fileOf pool15 8 #[.nestMembers #[319, 327, 801, 108, 663, 208]] #[{ accessFlags := 2, nameIndex := 5, descriptorIndex := 6, attributes := #[] }, { accessFlags := 265, nameIndex := 727, descriptorIndex := 728, attributes := #[] }] 49 2 #[] #[{ accessFlags := 25, nameIndex := 507, descriptorIndex := 526, attributes := #[] }, { accessFlags := 25, nameIndex := 399, descriptorIndex := 155, attributes := #[] }, { accessFlags := 25, nameIndex := 396, descriptorIndex := 155, attributes := #[] }, { accessFlags := 10, nameIndex := 525, descriptorIndex := 526, attributes := #[] }, { accessFlags := 26, nameIndex := 674, descriptorIndex := 12, attributes := #[] }, { accessFlags := 26, nameIndex := 677, descriptorIndex := 12, attributes := #[] }, { accessFlags := 10, nameIndex := 11, descriptorIndex := 12, attributes := #[] }, { accessFlags := 74, nameIndex := 175, descriptorIndex := 176, attributes := #[] }, { accessFlags := 10, nameIndex := 491, descriptorIndex := 222, attributes := #[] }, { accessFlags := 74, nameIndex := 29, descriptorIndex := 30, attributes := #[] }, { accessFlags := 74, nameIndex := 154, descriptorIndex := 155, attributes := #[] }, { accessFlags := 10, nameIndex := 217, descriptorIndex := 218, attributes := #[] }, { accessFlags := 10, nameIndex := 221, descriptorIndex := 222, attributes := #[] }, { accessFlags := 8, nameIndex := 562, descriptorIndex := 563, attributes := #[] }])
  fields := #[{ name := "in", type := (.object "java/io/InputStream"), accessFlags := 25, slot := 0, constantValue := 0 }, { name := "out", type := (.object "java/io/PrintStream"), accessFlags := 25, slot := 1, constantValue := 0 }, { name := "err", type := (.object "java/io/PrintStream"), accessFlags := 25, slot := 2, constantValue := 0 }, { name := "initialIn", type := (.object "java/io/InputStream"), accessFlags := 10, slot := 3, constantValue := 0 }, { name := "NEVER", type := .int, accessFlags := 26, slot := 4, constantValue := 0 }, { name := "MAYBE", type := .int, accessFlags := 26, slot := 5, constantValue := 0 }, { name := "allowSecurityManager", type := .int, accessFlags := 10, slot := 6, constantValue := 0 }, { name := "security", type := (.object "java/lang/SecurityManager"), accessFlags := 74, slot := 7, constantValue := 0 }, { name := "notSupportedJnuEncoding", type := (.object "java/lang/String"), accessFlags := 10, slot := 8, constantValue := 0 }, { name := "cons", type := (.object "java/io/Console"), accessFlags := 74, slot := 9, constantValue := 0 }, { name := "initialErrStream", type := (.object "java/io/PrintStream"), accessFlags := 74, slot := 10, constantValue := 0 }, { name := "props", type := (.object "java/util/Properties"), accessFlags := 10, slot := 11, constantValue := 0 }, { name := "lineSeparator", type := (.object "java/lang/String"), accessFlags := 10, slot := 12, constantValue := 0 }, { name := "bootLayer", type := (.object "java/lang/ModuleLayer"), accessFlags := 8, slot := 13, constantValue := 0 }]
  methods := #[k15m0, k15m1]
  instanceTypes := #[]
  staticTypes := #[(.object "java/io/InputStream"), (.object "java/io/PrintStream"), (.object "java/io/PrintStream"), (.object "java/io/InputStream"), .int, .int, .int, (.object "java/lang/SecurityManager"), (.object "java/lang/String"), (.object "java/io/Console"), (.object "java/io/PrintStream"), (.object "java/util/Properties"), (.object "java/lang/String"), (.object "java/lang/ModuleLayer")]
  resolved := Array.replicate 834 none
  statics := none }

def pool16 : Array CpInfo := pool [(9, u "<init>"), (6, .class_ 18), (1, u "java/lang/Object"), (0, u "()V"), (1, .class_ 23), (1, u "jdk/internal/util/ArraysSupport"), (0, u "LOG2_ARRAY_LONG_INDEX_SCALE"), (0, u "I"), (2, u "U"), (0, u "Ljdk/internal/misc/Unsafe;"), (8, u "BIG_ENDIAN"), (0, u "Z"), (8, u "LOG2_BYTE_BIT_SIZE"), (4, u "LOG2_ARRAY_INT_INDEX_SCALE"), (54, u "JLA"), (0, u "Ljdk/internal/access/JavaLangAccess;"), (11, u "LOG2_ARRAY_BOOLEAN_INDEX_SCALE"), (9, u "LOG2_ARRAY_BYTE_INDEX_SCALE"), (5, u "LOG2_ARRAY_CHAR_INDEX_SCALE"), (5, u "LOG2_ARRAY_SHORT_INDEX_SCALE"), (18, u "LOG2_ARRAY_FLOAT_INDEX_SCALE"), (24, u "LOG2_ARRAY_DOUBLE_INDEX_SCALE"), (89, u "T_BOOLEAN"), (2, u "T_CHAR"), (1, u "T_FLOAT"), (1, u "T_DOUBLE"), (1, u "T_BYTE"), (1, u "T_SHORT"), (1, u "T_INT"), (1, u "T_LONG"), (1, u "SOFT_MAX_ARRAY_LENGTH")] 83

def k16m0 : Method := { name := "<init>", desc := "()V", sig := { parameters := [], returnType := none }, accessFlags := 2, code := none }
/-- jdk/internal/util/ArraysSupport -/
def k16 : Class := { plain "jdk/internal/util/ArraysSupport" (some 0) with
  accessFlags := 33
  interfaces := #[]
  cf := some (fileOf pool16 21 #[] #[{ accessFlags := 2, nameIndex := 9, descriptorIndex := 19, attributes := #[] }] 33 16 #[] #[{ accessFlags := 24, nameIndex := 28, descriptorIndex := 29, attributes := #[] }, { accessFlags := 26, nameIndex := 38, descriptorIndex := 39, attributes := #[] }, { accessFlags := 25, nameIndex := 121, descriptorIndex := 25, attributes := #[] }, { accessFlags := 25, nameIndex := 131, descriptorIndex := 25, attributes := #[] }, { accessFlags := 25, nameIndex := 137, descriptorIndex := 25, attributes := #[] }, { accessFlags := 25, nameIndex := 143, descriptorIndex := 25, attributes := #[] }, { accessFlags := 25, nameIndex := 53, descriptorIndex := 25, attributes := #[] }, { accessFlags := 25, nameIndex := 24, descriptorIndex := 25, attributes := #[] }, { accessFlags := 25, nameIndex := 162, descriptorIndex := 25, attributes := #[] }, { accessFlags := 25, nameIndex := 187, descriptorIndex := 25, attributes := #[] }, { accessFlags := 26, nameIndex := 48, descriptorIndex := 25, attributes := #[] }, { accessFlags := 25, nameIndex := 277, descriptorIndex := 25, attributes := #[] }, { accessFlags := 25, nameIndex := 280, descriptorIndex := 25, attributes := #[] }, { accessFlags := 25, nameIndex := 282, descriptorIndex := 25, attributes := #[] }, { accessFlags := 25, nameIndex := 284, descriptorIndex := 25, attributes := #[] }, { accessFlags := 25, nameIndex := 286, descriptorIndex := 25, attributes := #[] }, { accessFlags := 25, nameIndex := 288, descriptorIndex := 25, attributes := #[] }, { accessFlags := 25, nameIndex := 290, descriptorIndex := 25, attributes := #[] }, { accessFlags := 25, nameIndex := 292, descriptorIndex := 25, attributes := #[] }, { accessFlags := 26, nameIndex := 108, descriptorIndex := 109, attributes := #[] }, { accessFlags := 25, nameIndex := 294, descriptorIndex := 25, attributes := #[] }])
  fields := #[{ name := "U", type := (.object "jdk/internal/misc/Unsafe"), accessFlags := 24, slot := 0, constantValue := 0 }, { name := "BIG_ENDIAN", type := .boolean, accessFlags := 26, slot := 1, constantValue := 0 }, { name := "LOG2_ARRAY_BOOLEAN_INDEX_SCALE", type := .int, accessFlags := 25, slot := 2, constantValue := 0 }, { name := "LOG2_ARRAY_BYTE_INDEX_SCALE", type := .int, accessFlags := 25, slot := 3, constantValue := 0 }, { name := "LOG2_ARRAY_CHAR_INDEX_SCALE", type := .int, accessFlags := 25, slot := 4, constantValue := 0 }, { name := "LOG2_ARRAY_SHORT_INDEX_SCALE", type := .int, accessFlags := 25, slot := 5, constantValue := 0 }, { name := "LOG2_ARRAY_INT_INDEX_SCALE", type := .int, accessFlags := 25, slot := 6, constantValue := 0 }, { name := "LOG2_ARRAY_LONG_INDEX_SCALE", type := .int, accessFlags := 25, slot := 7, constantValue := 0 }, { name := "LOG2_ARRAY_FLOAT_INDEX_SCALE", type := .int, accessFlags := 25, slot := 8, constantValue := 0 }, { name := "LOG2_ARRAY_DOUBLE_INDEX_SCALE", type := .int, accessFlags := 25, slot := 9, constantValue := 0 }, { name := "LOG2_BYTE_BIT_SIZE", type := .int, accessFlags := 26, slot := 10, constantValue := 0 }, { name := "T_BOOLEAN", type := .int, accessFlags := 25, slot := 11, constantValue := 0 }, { name := "T_CHAR", type := .int, accessFlags := 25, slot := 12, constantValue := 0 }, { name := "T_FLOAT", type := .int, accessFlags := 25, slot := 13, constantValue := 0 }, { name := "T_DOUBLE", type := .int, accessFlags := 25, slot := 14, constantValue := 0 }, { name := "T_BYTE", type := .int, accessFlags := 25, slot := 15, constantValue := 0 }, { name := "T_SHORT", type := .int, accessFlags := 25, slot := 16, constantValue := 0 }, { name := "T_INT", type := .int, accessFlags := 25, slot := 17, constantValue := 0 }, { name := "T_LONG", type := .int, accessFlags := 25, slot := 18, constantValue := 0 }, { name := "JLA", type := (.object "jdk/internal/access/JavaLangAccess"), accessFlags := 26, slot := 19, constantValue := 0 }, { name := "SOFT_MAX_ARRAY_LENGTH", type := .int, accessFlags := 25, slot := 20, constantValue := 0 }]
  methods := #[k16m0]
  instanceTypes := #[]
  staticTypes := #[(.object "jdk/internal/misc/Unsafe"), .boolean, .int, .int, .int, .int, .int, .int, .int, .int, .int, .int, .int, .int, .int, .int, .int, .int, .int, (.object "jdk/internal/access/JavaLangAccess"), .int]
  resolved := Array.replicate 378 none
  statics := none }

def pool17 : Array CpInfo := pool [(1, u "java/lang/Cloneable"), (0, .class_ 1), (0, u "java/lang/Object"), (0, .class_ 3)] 3

/-- java/lang/Cloneable -/
def k17 : Class := { plain "java/lang/Cloneable" (some 0) with
  accessFlags := 1537
  interfaces := #[]
  cf := some (fileOf pool17 2 #[] #[] 1537 4 #[] #[])
  fields := #[]
  methods := #[]
  instanceTypes := #[]
  staticTypes := #[]
  resolved := Array.replicate 8 none
  statics := none }

/-- the primitive byte -/
def k18 : Class := { plain "byte" none with kind := .primitive 'B', accessFlags := 0x411 }
/-- [B -/
def k19 : Class := { plain "[B" (some 0) with kind := .array 18 .byte, interfaces := #[17, 5], accessFlags := 1041 }

/-- the primitive char -/
def k20 : Class := { plain "char" none with kind := .primitive 'C', accessFlags := 0x411 }
/-- [C -/
def k21 : Class := { plain "[C" (some 0) with kind := .array 20 .char, interfaces := #[17, 5], accessFlags := 1041 }

/-- the primitive int -/
def k22 : Class := { plain "int" none with kind := .primitive 'I', accessFlags := 0x411 }
/-- [I -/
def k23 : Class := { plain "[I" (some 0) with kind := .array 22 .int, interfaces := #[17, 5], accessFlags := 1041 }

def heap : Heap := #[{ cls := 10, slots := #[.long 0, .int 1, .null, .int 0, .null, .int 0, .int 0], vm := .statics 10 },
  { cls := 13, slots := #[.null, .null, .null], vm := .statics 13 }]
def classes : Array Class := #[k0, k1, k2, k3, k4, k5, k6, k7, k8, k9, k10, k11, k12, k13, k14, k15, k16, k17, k18, k19, k20, k21, k22, k23]
def interned : List (Array UInt16 × Addr) := []
def slotsUsed : Nat := 10
def theMethod : MethodId := ⟨1, 1⟩
def args0 : Array Value := #[.int 5, .long 5, .long 5, .int 5]
def aboutOver (below : List Frame) : State where
  vm := { classes := classes, interned := interned.toArray }
  heap := heap
  slotsUsed := slotsUsed
  threads := #[{ frames := .invoking theMethod args0 :: below }]
def below0 : List Frame := [.native { method := ⟨0, 0⟩, args := #[] }]
def about1 : State := aboutOver below0
def p0 : Program := .bare "" "" ""
def e0 : Env := launch0.env 0 0 0
theorem w_frames : about1.frames = Frame.invoking theMethod args0 :: below0 := rfl
set_option maxRecDepth 65536 in
theorem w_args : argsFit about1.vm theMethod args0 = true := by decide +kernel
set_option maxRecDepth 65536 in
theorem w_heap : heapFits about1 = true := by decide +kernel
set_option maxRecDepth 65536 in
theorem w_runnable : about1.curStatus? = some .runnable := by decide +kernel
set_option maxRecDepth 65536 in
theorem w_alone : about1.alone = true := by decide +kernel
set_option maxRecDepth 65536 in
theorem w_named : about1.methodNamed? x = some theMethod := by decide +kernel
set_option maxRecDepth 65536 in
theorem w_hears : about1.hears theMethod below0 = true := by decide +kernel
set_option maxRecDepth 65536 in
theorem w_ripe : about1.ripe theMethod args0 below0 = true := by decide +kernel
theorem w_running : about1.status = .running := rfl
set_option maxRecDepth 65536 in
theorem w_room : about1.hasRoom e0.platform room_1 = true :=
  launch0.hasRoom_least _ room_1 (by decide +kernel) (by decide +kernel) (by decide +kernel) (by decide +kernel) (by decide +kernel) (by decide +kernel)
theorem allAtoms_all (ts : List Jvm.Cond) (a : Array Jvm.Value) (st : Jvm.State) : (allAtoms ts).before a st = ts.all (fun c => c.before a st) := by
  induction ts with
  | nil => rfl
  | cons c t ih =>
    show (Jvm.Cond.and c (allAtoms t)).before a st = _
    rw [Jvm.Cond.before_and, ih, List.all_cons]
def words1 : List Jvm.Cond := Jvm.Cond.code x code maxLocals ret :: tables_1
/-- a 'code' word, met by the world's own term for the bytes: nothing is compared byte by byte -/
theorem code_word {y : MethodName} {bytes : ByteArray} {mx : Nat} {rt : Option FieldType} {a : Array Value} {s : State} {m : MethodId} {meth : Method} {c : Code} (h1 : s.methodNamed? y = some m) (h2 : s.vm.method? m = some meth) (h3 : meth.code = some c) (h4 : c.code = bytes)
    (h5 : (c.maxLocals == mx && c.exceptionTable.isEmpty && decide (c.maxStack ≤ mostOperands) && decide (meth.sig.returnType = rt) && !meth.locks && decide (parseMethodDescriptor y.desc = some meth.sig)) = true) : (Jvm.Cond.code y bytes mx rt).before a s = true := by
  simp only [Bool.and_eq_true, beq_iff_eq, Bool.not_eq_true', decide_eq_true_eq] at h5
  obtain ⟨⟨⟨⟨⟨g1, g2⟩, g3⟩, g4⟩, g5⟩, g6⟩ := h5
  simp [Cond.before, Cond.holds, Cond.value, h1, h2, h3, h4, g1, g2, g3, g4, g5, g6]
def isCode : Jvm.Cond → Bool
  | .code _ _ _ _ => true
  | _ => false
theorem all_split {L : List Jvm.Cond} {P : Jvm.Cond → Bool} (h1 : L.all (fun c => isCode c || P c) = true) (h2 : ∀ c ∈ L.filter isCode, P c = true) : L.all P = true := by
  refine List.all_eq_true.mpr fun c hc => ?_
  have h := List.all_eq_true.mp h1 c hc
  rcases Bool.eq_false_or_eq_true (isCode c) with hi | hi
  · exact h2 c (List.mem_filter.mpr ⟨hc, hi⟩)
  · simpa [hi] using h
set_option maxRecDepth 65536 in
theorem w_c0 : (Jvm.Cond.code x code maxLocals ret).before args0 about1 = true := code_word (m := ⟨1, 1⟩) (meth := k1m1) (c := k1c1) (by decide +kernel) rfl rfl rfl (by decide +kernel)
set_option maxRecDepth 65536 in
theorem w_c1 : (Jvm.Cond.code ({ cls := "java/lang/Math", name := "min", desc := "(II)I" } : Jvm.MethodName) jdk_29_method_69_code (2 : Nat) (Option.some Jvm.ClassFile.FieldType.int)).before args0 about1 = true := code_word (m := ⟨2, 2⟩) (meth := k2m2) (c := k2c2) (by decide +kernel) rfl rfl rfl (by decide +kernel)
set_option maxRecDepth 65536 in
theorem w_c2 : (Jvm.Cond.code ({ cls := "com/example/elsewhere/elsewhere/SubfieldCleanValuePinLaw", name := "pos", desc := "(IIIIICJJ)C" } : Jvm.MethodName) method_3_code (10 : Nat) (Option.some Jvm.ClassFile.FieldType.char)).before args0 about1 = true := code_word (m := ⟨1, 2⟩) (meth := k1m2) (c := k1c2) (by decide +kernel) rfl rfl rfl (by decide +kernel)
set_option maxRecDepth 65536 in
theorem w_c3 : (Jvm.Cond.code ({ cls := "com/example/elsewhere/elsewhere/SubfieldCleanValuePinLaw", name := "core", desc := "(IIIJJ)C" } : Jvm.MethodName) method_4_code (10 : Nat) (Option.some Jvm.ClassFile.FieldType.char)).before args0 about1 = true := code_word (m := ⟨1, 3⟩) (meth := k1m3) (c := k1c3) (by decide +kernel) rfl rfl rfl (by decide +kernel)
set_option maxRecDepth 65536 in
theorem w_c4 : (Jvm.Cond.code ({ cls := "java/lang/String", name := "<init>", desc := "([C)V" } : Jvm.MethodName) jdk_42_method_3_code (2 : Nat) (Option.none : Option Jvm.ClassFile.FieldType)).before args0 about1 = true := code_word (m := ⟨10, 1⟩) (meth := k10m1) (c := k10c1) (by decide +kernel) rfl rfl rfl (by decide +kernel)
set_option maxRecDepth 65536 in
theorem w_c5 : (Jvm.Cond.code ({ cls := "java/lang/String", name := "<init>", desc := "([CIILjava/lang/Void;)V" } : Jvm.MethodName) jdk_42_method_149_code (6 : Nat) (Option.none : Option Jvm.ClassFile.FieldType)).before args0 about1 = true := code_word (m := ⟨10, 7⟩) (meth := k10m7) (c := k10c7) (by decide +kernel) rfl rfl rfl (by decide +kernel)
set_option maxRecDepth 65536 in
theorem w_c6 : (Jvm.Cond.code ({ cls := "java/lang/Object", name := "<init>", desc := "()V" } : Jvm.MethodName) object_method_1_code (1 : Nat) (Option.none : Option Jvm.ClassFile.FieldType)).before args0 about1 = true := code_word (m := ⟨0, 0⟩) (meth := k0m0) (c := k0c0) (by decide +kernel) rfl rfl rfl (by decide +kernel)
set_option maxRecDepth 65536 in
theorem w_c7 : (Jvm.Cond.code ({ cls := "java/lang/StringUTF16", name := "compress", desc := "([CII)[B" } : Jvm.MethodName) jdk_52_method_16_code (6 : Nat) (Option.some (Jvm.ClassFile.FieldType.array Jvm.ClassFile.FieldType.byte))).before args0 about1 = true := code_word (m := ⟨11, 2⟩) (meth := k11m2) (c := k11c2) (by decide +kernel) rfl rfl rfl (by decide +kernel)
set_option maxRecDepth 65536 in
theorem w_c8 : (Jvm.Cond.code ({ cls := "java/lang/StringUTF16", name := "compress", desc := "([CI[BII)I" } : Jvm.MethodName) jdk_52_method_21_code (7 : Nat) (Option.some Jvm.ClassFile.FieldType.int)).before args0 about1 = true := code_word (m := ⟨11, 3⟩) (meth := k11m3) (c := k11c3) (by decide +kernel) rfl rfl rfl (by decide +kernel)
set_option maxRecDepth 65536 in
theorem w_c9 : (Jvm.Cond.code ({ cls := "java/lang/StringUTF16", name := "coderFromArrayLen", desc := "([BI)B" } : Jvm.MethodName) jdk_52_method_15_code (2 : Nat) (Option.some Jvm.ClassFile.FieldType.byte)).before args0 about1 = true := code_word (m := ⟨11, 1⟩) (meth := k11m1) (c := k11c1) (by decide +kernel) rfl rfl rfl (by decide +kernel)
set_option maxRecDepth 65536 in
theorem w_c10 : (Jvm.Cond.code ({ cls := "com/example/elsewhere/elsewhere/Field$Subfield", name := "<init>", desc := "(ILjava/lang/String;)V" } : Jvm.MethodName) prog_11_method_1_code (3 : Nat) (Option.none : Option Jvm.ClassFile.FieldType)).before args0 about1 = true := code_word (m := ⟨4, 0⟩) (meth := k4m0) (c := k4c0) (by decide +kernel) rfl rfl rfl (by decide +kernel)
set_option maxRecDepth 65536 in
theorem w_c11 : (Jvm.Cond.code ({ cls := "java/lang/Record", name := "<init>", desc := "()V" } : Jvm.MethodName) jdk_30_method_1_code (1 : Nat) (Option.none : Option Jvm.ClassFile.FieldType)).before args0 about1 = true := code_word (m := ⟨3, 0⟩) (meth := k3m0) (c := k3c0) (by decide +kernel) rfl rfl rfl (by decide +kernel)
set_option maxRecDepth 65536 in
theorem w_c12 : (Jvm.Cond.code ({ cls := "com/example/elsewhere/elsewhere/Field$Subfield", name := "cleanValue", desc := "()Ljava/lang/String;" } : Jvm.MethodName) prog_11_method_2_code (3 : Nat) (Option.some (Jvm.ClassFile.FieldType.object "java/lang/String"))).before args0 about1 = true := code_word (m := ⟨4, 1⟩) (meth := k4m1) (c := k4c1) (by decide +kernel) rfl rfl rfl (by decide +kernel)
set_option maxRecDepth 65536 in
theorem w_c13 : (Jvm.Cond.code ({ cls := "java/lang/String", name := "length", desc := "()I" } : Jvm.MethodName) jdk_42_method_54_code (1 : Nat) (Option.some Jvm.ClassFile.FieldType.int)).before args0 about1 = true := code_word (m := ⟨10, 2⟩) (meth := k10m2) (c := k10c2) (by decide +kernel) rfl rfl rfl (by decide +kernel)
set_option maxRecDepth 65536 in
theorem w_c14 : (Jvm.Cond.code ({ cls := "java/lang/String", name := "coder", desc := "()B" } : Jvm.MethodName) jdk_42_method_152_code (1 : Nat) (Option.some Jvm.ClassFile.FieldType.byte)).before args0 about1 = true := code_word (m := ⟨10, 9⟩) (meth := k10m9) (c := k10c9) (by decide +kernel) rfl rfl rfl (by decide +kernel)
set_option maxRecDepth 65536 in
theorem w_c15 : (Jvm.Cond.code ({ cls := "java/lang/String", name := "charAt", desc := "(I)C" } : Jvm.MethodName) jdk_42_method_56_code (2 : Nat) (Option.some Jvm.ClassFile.FieldType.char)).before args0 about1 = true := code_word (m := ⟨10, 3⟩) (meth := k10m3) (c := k10c3) (by decide +kernel) rfl rfl rfl (by decide +kernel)
set_option maxRecDepth 65536 in
theorem w_c16 : (Jvm.Cond.code ({ cls := "java/lang/String", name := "isLatin1", desc := "()Z" } : Jvm.MethodName) jdk_42_method_154_code (1 : Nat) (Option.some Jvm.ClassFile.FieldType.boolean)).before args0 about1 = true := code_word (m := ⟨10, 10⟩) (meth := k10m10) (c := k10c10) (by decide +kernel) rfl rfl rfl (by decide +kernel)
set_option maxRecDepth 65536 in
theorem w_c17 : (Jvm.Cond.code ({ cls := "java/lang/StringLatin1", name := "charAt", desc := "([BI)C" } : Jvm.MethodName) jdk_43_method_2_code (2 : Nat) (Option.some Jvm.ClassFile.FieldType.char)).before args0 about1 = true := code_word (m := ⟨12, 1⟩) (meth := k12m1) (c := k12c1) (by decide +kernel) rfl rfl rfl (by decide +kernel)
set_option maxRecDepth 65536 in
theorem w_c18 : (Jvm.Cond.code ({ cls := "java/lang/String", name := "checkIndex", desc := "(II)V" } : Jvm.MethodName) jdk_42_method_155_code (2 : Nat) (Option.none : Option Jvm.ClassFile.FieldType)).before args0 about1 = true := code_word (m := ⟨10, 11⟩) (meth := k10m11) (c := k10c11) (by decide +kernel) rfl rfl rfl (by decide +kernel)
set_option maxRecDepth 65536 in
theorem w_c19 : (Jvm.Cond.code ({ cls := "jdk/internal/util/Preconditions", name := "checkIndex", desc := "(IILjava/util/function/BiFunction;)I" } : Jvm.MethodName) jdk_41_method_11_code (3 : Nat) (Option.some Jvm.ClassFile.FieldType.int)).before args0 about1 = true := code_word (m := ⟨13, 1⟩) (meth := k13m1) (c := k13c1) (by decide +kernel) rfl rfl rfl (by decide +kernel)
set_option maxRecDepth 65536 in
theorem w_c20 : (Jvm.Cond.code ({ cls := "com/example/elsewhere/elsewhere/Field$Subfield", name := "endBeforeSpaces", desc := "(II)I" } : Jvm.MethodName) prog_11_method_5_code (4 : Nat) (Option.some Jvm.ClassFile.FieldType.int)).before args0 about1 = true := code_word (m := ⟨4, 3⟩) (meth := k4m3) (c := k4c3) (by decide +kernel) rfl rfl rfl (by decide +kernel)
set_option maxRecDepth 65536 in
theorem w_c21 : (Jvm.Cond.code ({ cls := "com/example/elsewhere/elsewhere/Field$Subfield", name := "endBeforeSeparator", desc := "(II)I" } : Jvm.MethodName) prog_11_method_4_code (3 : Nat) (Option.some Jvm.ClassFile.FieldType.int)).before args0 about1 = true := code_word (m := ⟨4, 2⟩) (meth := k4m2) (c := k4c2) (by decide +kernel) rfl rfl rfl (by decide +kernel)
set_option maxRecDepth 65536 in
theorem w_c22 : (Jvm.Cond.code ({ cls := "java/lang/String", name := "indexOf", desc := "(I)I" } : Jvm.MethodName) jdk_42_method_79_code (2 : Nat) (Option.some Jvm.ClassFile.FieldType.int)).before args0 about1 = true := code_word (m := ⟨10, 4⟩) (meth := k10m4) (c := k10c4) (by decide +kernel) rfl rfl rfl (by decide +kernel)
set_option maxRecDepth 65536 in
theorem w_c23 : (Jvm.Cond.code ({ cls := "java/lang/String", name := "indexOf", desc := "(II)I" } : Jvm.MethodName) jdk_42_method_80_code (3 : Nat) (Option.some Jvm.ClassFile.FieldType.int)).before args0 about1 = true := code_word (m := ⟨10, 5⟩) (meth := k10m5) (c := k10c5) (by decide +kernel) rfl rfl rfl (by decide +kernel)
set_option maxRecDepth 65536 in
theorem w_c24 : (Jvm.Cond.code ({ cls := "java/lang/StringLatin1", name := "indexOf", desc := "([BIII)I" } : Jvm.MethodName) jdk_43_method_22_code (4 : Nat) (Option.some Jvm.ClassFile.FieldType.int)).before args0 about1 = true := code_word (m := ⟨12, 3⟩) (meth := k12m3) (c := k12c3) (by decide +kernel) rfl rfl rfl (by decide +kernel)
set_option maxRecDepth 65536 in
theorem w_c25 : (Jvm.Cond.code ({ cls := "java/lang/StringLatin1", name := "canEncode", desc := "(I)Z" } : Jvm.MethodName) jdk_43_method_4_code (1 : Nat) (Option.some Jvm.ClassFile.FieldType.boolean)).before args0 about1 = true := code_word (m := ⟨12, 2⟩) (meth := k12m2) (c := k12c2) (by decide +kernel) rfl rfl rfl (by decide +kernel)
set_option maxRecDepth 65536 in
theorem w_c26 : (Jvm.Cond.code ({ cls := "java/lang/Math", name := "max", desc := "(II)I" } : Jvm.MethodName) jdk_29_method_65_code (2 : Nat) (Option.some Jvm.ClassFile.FieldType.int)).before args0 about1 = true := code_word (m := ⟨2, 1⟩) (meth := k2m1) (c := k2c1) (by decide +kernel) rfl rfl rfl (by decide +kernel)
set_option maxRecDepth 65536 in
theorem w_c27 : (Jvm.Cond.code ({ cls := "java/lang/StringLatin1", name := "indexOfChar", desc := "([BIII)I" } : Jvm.MethodName) jdk_43_method_23_code (6 : Nat) (Option.some Jvm.ClassFile.FieldType.int)).before args0 about1 = true := code_word (m := ⟨12, 4⟩) (meth := k12m4) (c := k12c4) (by decide +kernel) rfl rfl rfl (by decide +kernel)
set_option maxRecDepth 65536 in
theorem w_c28 : (Jvm.Cond.code ({ cls := "java/lang/String", name := "substring", desc := "(II)Ljava/lang/String;" } : Jvm.MethodName) jdk_42_method_92_code (5 : Nat) (Option.some (Jvm.ClassFile.FieldType.object "java/lang/String"))).before args0 about1 = true := code_word (m := ⟨10, 6⟩) (meth := k10m6) (c := k10c6) (by decide +kernel) rfl rfl rfl (by decide +kernel)
set_option maxRecDepth 65536 in
theorem w_c29 : (Jvm.Cond.code ({ cls := "java/lang/String", name := "checkBoundsBeginEnd", desc := "(III)V" } : Jvm.MethodName) jdk_42_method_158_code (3 : Nat) (Option.none : Option Jvm.ClassFile.FieldType)).before args0 about1 = true := code_word (m := ⟨10, 12⟩) (meth := k10m12) (c := k10c12) (by decide +kernel) rfl rfl rfl (by decide +kernel)
set_option maxRecDepth 65536 in
theorem w_c30 : (Jvm.Cond.code ({ cls := "jdk/internal/util/Preconditions", name := "checkFromToIndex", desc := "(IIILjava/util/function/BiFunction;)I" } : Jvm.MethodName) jdk_41_method_12_code (4 : Nat) (Option.some Jvm.ClassFile.FieldType.int)).before args0 about1 = true := code_word (m := ⟨13, 2⟩) (meth := k13m2) (c := k13c2) (by decide +kernel) rfl rfl rfl (by decide +kernel)
set_option maxRecDepth 65536 in
theorem w_c31 : (Jvm.Cond.code ({ cls := "com/example/elsewhere/elsewhere/SubfieldCleanValuePinLaw", name := "same", desc := "(Ljava/lang/String;[CIII)Z" } : Jvm.MethodName) method_5_code (5 : Nat) (Option.some Jvm.ClassFile.FieldType.boolean)).before args0 about1 = true := code_word (m := ⟨1, 4⟩) (meth := k1m4) (c := k1c4) (by decide +kernel) rfl rfl rfl (by decide +kernel)
set_option maxRecDepth 65536 in
theorem w_c32 : (Jvm.Cond.code ({ cls := "java/lang/StringLatin1", name := "newString", desc := "([BII)Ljava/lang/String;" } : Jvm.MethodName) jdk_43_method_47_code (3 : Nat) (Option.some (Jvm.ClassFile.FieldType.object "java/lang/String"))).before args0 about1 = true := code_word (m := ⟨12, 5⟩) (meth := k12m5) (c := k12c5) (by decide +kernel) rfl rfl rfl (by decide +kernel)
set_option maxRecDepth 65536 in
theorem w_c33 : (Jvm.Cond.code ({ cls := "java/util/Arrays", name := "copyOfRange", desc := "([BII)[B" } : Jvm.MethodName) jdk_65_method_132_code (3 : Nat) (Option.some (Jvm.ClassFile.FieldType.array Jvm.ClassFile.FieldType.byte))).before args0 about1 = true := code_word (m := ⟨14, 2⟩) (meth := k14m2) (c := k14c2) (by decide +kernel) rfl rfl rfl (by decide +kernel)
set_option maxRecDepth 65536 in
theorem w_c34 : (Jvm.Cond.code ({ cls := "java/util/Arrays", name := "copyOfRangeByte", desc := "([BII)[B" } : Jvm.MethodName) jdk_65_method_133_code (5 : Nat) (Option.some (Jvm.ClassFile.FieldType.array Jvm.ClassFile.FieldType.byte))).before args0 about1 = true := code_word (m := ⟨14, 3⟩) (meth := k14m3) (c := k14c3) (by decide +kernel) rfl rfl rfl (by decide +kernel)
set_option maxRecDepth 65536 in
theorem w_c35 : (Jvm.Cond.code ({ cls := "java/util/Arrays", name := "checkLength", desc := "(II)V" } : Jvm.MethodName) jdk_65_method_131_code (2 : Nat) (Option.none : Option Jvm.ClassFile.FieldType)).before args0 about1 = true := code_word (m := ⟨14, 1⟩) (meth := k14m1) (c := k14c1) (by decide +kernel) rfl rfl rfl (by decide +kernel)
set_option maxRecDepth 65536 in
theorem w_c36 : (Jvm.Cond.code ({ cls := "java/lang/String", name := "<init>", desc := "([BB)V" } : Jvm.MethodName) jdk_42_method_151_code (3 : Nat) (Option.none : Option Jvm.ClassFile.FieldType)).before args0 about1 = true := code_word (m := ⟨10, 8⟩) (meth := k10m8) (c := k10c8) (by decide +kernel) rfl rfl rfl (by decide +kernel)
def codes1 : List Jvm.Cond := [Jvm.Cond.code x code maxLocals ret, Jvm.Cond.code ({ cls := "java/lang/Math", name := "min", desc := "(II)I" } : Jvm.MethodName) jdk_29_method_69_code (2 : Nat) (Option.some Jvm.ClassFile.FieldType.int), Jvm.Cond.code ({ cls := "com/example/elsewhere/elsewhere/SubfieldCleanValuePinLaw", name := "pos", desc := "(IIIIICJJ)C" } : Jvm.MethodName) method_3_code (10 : Nat) (Option.some Jvm.ClassFile.FieldType.char), Jvm.Cond.code ({ cls := "com/example/elsewhere/elsewhere/SubfieldCleanValuePinLaw", name := "core", desc := "(IIIJJ)C" } : Jvm.MethodName) method_4_code (10 : Nat) (Option.some Jvm.ClassFile.FieldType.char), Jvm.Cond.code ({ cls := "java/lang/String", name := "<init>", desc := "([C)V" } : Jvm.MethodName) jdk_42_method_3_code (2 : Nat) (Option.none : Option Jvm.ClassFile.FieldType), Jvm.Cond.code ({ cls := "java/lang/String", name := "<init>", desc := "([CIILjava/lang/Void;)V" } : Jvm.MethodName) jdk_42_method_149_code (6 : Nat) (Option.none : Option Jvm.ClassFile.FieldType), Jvm.Cond.code ({ cls := "java/lang/Object", name := "<init>", desc := "()V" } : Jvm.MethodName) object_method_1_code (1 : Nat) (Option.none : Option Jvm.ClassFile.FieldType), Jvm.Cond.code ({ cls := "java/lang/StringUTF16", name := "compress", desc := "([CII)[B" } : Jvm.MethodName) jdk_52_method_16_code (6 : Nat) (Option.some (Jvm.ClassFile.FieldType.array Jvm.ClassFile.FieldType.byte)), Jvm.Cond.code ({ cls := "java/lang/StringUTF16", name := "compress", desc := "([CI[BII)I" } : Jvm.MethodName) jdk_52_method_21_code (7 : Nat) (Option.some Jvm.ClassFile.FieldType.int), Jvm.Cond.code ({ cls := "java/lang/StringUTF16", name := "coderFromArrayLen", desc := "([BI)B" } : Jvm.MethodName) jdk_52_method_15_code (2 : Nat) (Option.some Jvm.ClassFile.FieldType.byte), Jvm.Cond.code ({ cls := "com/example/elsewhere/elsewhere/Field$Subfield", name := "<init>", desc := "(ILjava/lang/String;)V" } : Jvm.MethodName) prog_11_method_1_code (3 : Nat) (Option.none : Option Jvm.ClassFile.FieldType), Jvm.Cond.code ({ cls := "java/lang/Record", name := "<init>", desc := "()V" } : Jvm.MethodName) jdk_30_method_1_code (1 : Nat) (Option.none : Option Jvm.ClassFile.FieldType), Jvm.Cond.code ({ cls := "com/example/elsewhere/elsewhere/Field$Subfield", name := "cleanValue", desc := "()Ljava/lang/String;" } : Jvm.MethodName) prog_11_method_2_code (3 : Nat) (Option.some (Jvm.ClassFile.FieldType.object "java/lang/String")), Jvm.Cond.code ({ cls := "java/lang/String", name := "length", desc := "()I" } : Jvm.MethodName) jdk_42_method_54_code (1 : Nat) (Option.some Jvm.ClassFile.FieldType.int), Jvm.Cond.code ({ cls := "java/lang/String", name := "coder", desc := "()B" } : Jvm.MethodName) jdk_42_method_152_code (1 : Nat) (Option.some Jvm.ClassFile.FieldType.byte), Jvm.Cond.code ({ cls := "java/lang/String", name := "charAt", desc := "(I)C" } : Jvm.MethodName) jdk_42_method_56_code (2 : Nat) (Option.some Jvm.ClassFile.FieldType.char), Jvm.Cond.code ({ cls := "java/lang/String", name := "isLatin1", desc := "()Z" } : Jvm.MethodName) jdk_42_method_154_code (1 : Nat) (Option.some Jvm.ClassFile.FieldType.boolean), Jvm.Cond.code ({ cls := "java/lang/StringLatin1", name := "charAt", desc := "([BI)C" } : Jvm.MethodName) jdk_43_method_2_code (2 : Nat) (Option.some Jvm.ClassFile.FieldType.char), Jvm.Cond.code ({ cls := "java/lang/String", name := "checkIndex", desc := "(II)V" } : Jvm.MethodName) jdk_42_method_155_code (2 : Nat) (Option.none : Option Jvm.ClassFile.FieldType), Jvm.Cond.code ({ cls := "jdk/internal/util/Preconditions", name := "checkIndex", desc := "(IILjava/util/function/BiFunction;)I" } : Jvm.MethodName) jdk_41_method_11_code (3 : Nat) (Option.some Jvm.ClassFile.FieldType.int), Jvm.Cond.code ({ cls := "com/example/elsewhere/elsewhere/Field$Subfield", name := "endBeforeSpaces", desc := "(II)I" } : Jvm.MethodName) prog_11_method_5_code (4 : Nat) (Option.some Jvm.ClassFile.FieldType.int), Jvm.Cond.code ({ cls := "com/example/elsewhere/elsewhere/Field$Subfield", name := "endBeforeSeparator", desc := "(II)I" } : Jvm.MethodName) prog_11_method_4_code (3 : Nat) (Option.some Jvm.ClassFile.FieldType.int), Jvm.Cond.code ({ cls := "java/lang/String", name := "indexOf", desc := "(I)I" } : Jvm.MethodName) jdk_42_method_79_code (2 : Nat) (Option.some Jvm.ClassFile.FieldType.int), Jvm.Cond.code ({ cls := "java/lang/String", name := "indexOf", desc := "(II)I" } : Jvm.MethodName) jdk_42_method_80_code (3 : Nat) (Option.some Jvm.ClassFile.FieldType.int), Jvm.Cond.code ({ cls := "java/lang/StringLatin1", name := "indexOf", desc := "([BIII)I" } : Jvm.MethodName) jdk_43_method_22_code (4 : Nat) (Option.some Jvm.ClassFile.FieldType.int), Jvm.Cond.code ({ cls := "java/lang/StringLatin1", name := "canEncode", desc := "(I)Z" } : Jvm.MethodName) jdk_43_method_4_code (1 : Nat) (Option.some Jvm.ClassFile.FieldType.boolean), Jvm.Cond.code ({ cls := "java/lang/Math", name := "max", desc := "(II)I" } : Jvm.MethodName) jdk_29_method_65_code (2 : Nat) (Option.some Jvm.ClassFile.FieldType.int), Jvm.Cond.code ({ cls := "java/lang/StringLatin1", name := "indexOfChar", desc := "([BIII)I" } : Jvm.MethodName) jdk_43_method_23_code (6 : Nat) (Option.some Jvm.ClassFile.FieldType.int), Jvm.Cond.code ({ cls := "java/lang/String", name := "substring", desc := "(II)Ljava/lang/String;" } : Jvm.MethodName) jdk_42_method_92_code (5 : Nat) (Option.some (Jvm.ClassFile.FieldType.object "java/lang/String")), Jvm.Cond.code ({ cls := "java/lang/String", name := "checkBoundsBeginEnd", desc := "(III)V" } : Jvm.MethodName) jdk_42_method_158_code (3 : Nat) (Option.none : Option Jvm.ClassFile.FieldType), Jvm.Cond.code ({ cls := "jdk/internal/util/Preconditions", name := "checkFromToIndex", desc := "(IIILjava/util/function/BiFunction;)I" } : Jvm.MethodName) jdk_41_method_12_code (4 : Nat) (Option.some Jvm.ClassFile.FieldType.int), Jvm.Cond.code ({ cls := "com/example/elsewhere/elsewhere/SubfieldCleanValuePinLaw", name := "same", desc := "(Ljava/lang/String;[CIII)Z" } : Jvm.MethodName) method_5_code (5 : Nat) (Option.some Jvm.ClassFile.FieldType.boolean), Jvm.Cond.code ({ cls := "java/lang/StringLatin1", name := "newString", desc := "([BII)Ljava/lang/String;" } : Jvm.MethodName) jdk_43_method_47_code (3 : Nat) (Option.some (Jvm.ClassFile.FieldType.object "java/lang/String")), Jvm.Cond.code ({ cls := "java/util/Arrays", name := "copyOfRange", desc := "([BII)[B" } : Jvm.MethodName) jdk_65_method_132_code (3 : Nat) (Option.some (Jvm.ClassFile.FieldType.array Jvm.ClassFile.FieldType.byte)), Jvm.Cond.code ({ cls := "java/util/Arrays", name := "copyOfRangeByte", desc := "([BII)[B" } : Jvm.MethodName) jdk_65_method_133_code (5 : Nat) (Option.some (Jvm.ClassFile.FieldType.array Jvm.ClassFile.FieldType.byte)), Jvm.Cond.code ({ cls := "java/util/Arrays", name := "checkLength", desc := "(II)V" } : Jvm.MethodName) jdk_65_method_131_code (2 : Nat) (Option.none : Option Jvm.ClassFile.FieldType), Jvm.Cond.code ({ cls := "java/lang/String", name := "<init>", desc := "([BB)V" } : Jvm.MethodName) jdk_42_method_151_code (3 : Nat) (Option.none : Option Jvm.ClassFile.FieldType)]
set_option maxRecDepth 65536 in
theorem codes_eq : words1.filter isCode = codes1 := rfl
theorem w_codes : ∀ c ∈ words1.filter isCode, c.before args0 about1 = true := by
  rw [codes_eq]
  intro c hc
  simp only [codes1, List.mem_cons, List.not_mem_nil, or_false] at hc
  rcases hc with rfl | rfl | rfl | rfl | rfl | rfl | rfl | rfl | rfl | rfl | rfl | rfl | rfl | rfl | rfl | rfl | rfl | rfl | rfl | rfl | rfl | rfl | rfl | rfl | rfl | rfl | rfl | rfl | rfl | rfl | rfl | rfl | rfl | rfl | rfl | rfl | rfl
  · exact w_c0
  · exact w_c1
  · exact w_c2
  · exact w_c3
  · exact w_c4
  · exact w_c5
  · exact w_c6
  · exact w_c7
  · exact w_c8
  · exact w_c9
  · exact w_c10
  · exact w_c11
  · exact w_c12
  · exact w_c13
  · exact w_c14
  · exact w_c15
  · exact w_c16
  · exact w_c17
  · exact w_c18
  · exact w_c19
  · exact w_c20
  · exact w_c21
  · exact w_c22
  · exact w_c23
  · exact w_c24
  · exact w_c25
  · exact w_c26
  · exact w_c27
  · exact w_c28
  · exact w_c29
  · exact w_c30
  · exact w_c31
  · exact w_c32
  · exact w_c33
  · exact w_c34
  · exact w_c35
  · exact w_c36
set_option maxRecDepth 65536 in
theorem w_t1 : (words1.take 24).all (fun c => isCode c || c.before args0 about1) = true := by decide +kernel
set_option maxRecDepth 65536 in
theorem w_t2 : ((words1.drop 24).take 24).all (fun c => isCode c || c.before args0 about1) = true := by decide +kernel
set_option maxRecDepth 65536 in
theorem w_t3 : (((words1.drop 24).drop 24).take 24).all (fun c => isCode c || c.before args0 about1) = true := by decide +kernel
set_option maxRecDepth 65536 in
theorem w_t4 : ((((words1.drop 24).drop 24).drop 24).take 24).all (fun c => isCode c || c.before args0 about1) = true := by decide +kernel
set_option maxRecDepth 65536 in
theorem w_t5 : (((((words1.drop 24).drop 24).drop 24).drop 24).take 24).all (fun c => isCode c || c.before args0 about1) = true := by decide +kernel
set_option maxRecDepth 65536 in
theorem w_t6 : ((((((words1.drop 24).drop 24).drop 24).drop 24).drop 24).take 24).all (fun c => isCode c || c.before args0 about1) = true := by decide +kernel
set_option maxRecDepth 65536 in
theorem w_t7 : (((((((words1.drop 24).drop 24).drop 24).drop 24).drop 24).drop 24).take 24).all (fun c => isCode c || c.before args0 about1) = true := by decide +kernel
set_option maxRecDepth 65536 in
theorem w_t8 : (((((((words1.drop 24).drop 24).drop 24).drop 24).drop 24).drop 24).drop 24).all (fun c => isCode c || c.before args0 about1) = true := by decide +kernel
theorem w_tables : (allAtoms (Jvm.Cond.code x code maxLocals ret :: tables_1)).before args0 about1 = true := by
  rw [allAtoms_all]
  show words1.all (fun c => c.before args0 about1) = true
  refine all_split ?_ w_codes
  rw [← List.take_append_drop 24 words1, List.all_append, w_t1, ← List.take_append_drop 24 (words1.drop 24), List.all_append, w_t2, ← List.take_append_drop 24 ((words1.drop 24).drop 24), List.all_append, w_t3, ← List.take_append_drop 24 (((words1.drop 24).drop 24).drop 24), List.all_append, w_t4, ← List.take_append_drop 24 ((((words1.drop 24).drop 24).drop 24).drop 24), List.all_append, w_t5, ← List.take_append_drop 24 (((((words1.drop 24).drop 24).drop 24).drop 24).drop 24), List.all_append, w_t6, ← List.take_append_drop 24 ((((((words1.drop 24).drop 24).drop 24).drop 24).drop 24).drop 24), List.all_append, w_t7, w_t8]
  rfl
set_option maxRecDepth 65536 in
theorem w_rest : rest_1_c.before args0 about1 = true := by decide +kernel
set_option maxRecDepth 65536 in
theorem w_case : (Jvm.Cond.and given_1 narrow_1).before args0 about1 = true := by decide +kernel
set_option maxRecDepth 65536 in
theorem w_consts : constsHeld consts_1 about1 := Jvm.Lit.constsHeldB_iff.mp (by decide +kernel)
theorem w_applies : (headSpec (Jvm.Cond.code x code maxLocals ret :: tables_1) room_1).applies x e0.platform about1 = true :=
  (Spec.applies_iff w_frames).mpr ⟨w_running, w_runnable, w_alone, w_named, w_hears, w_ripe, w_room, w_tables⟩
theorem atStart : AtStart classFile x code maxLocals ret World_1 tables_1 room_1 Calls_1 rest_1 Pre_1 launch0 p0 e0 about1 theMethod args0 below0 :=
  ⟨lists_1, trivial, launch0.admits_env _ _ _, launch0.least_env, fairChoices_fair.cas, fairChoices_fair.clock, w_frames, w_args, w_heap, w_applies, ⟨w_consts, trivial⟩, w_rest, w_case⟩
end start1
theorem witness_1 : WitnessClaimed_1 := ⟨start1.p0, start1.e0, start1.about1, start1.theMethod, start1.args0, start1.below0, start1.atStart⟩
end Jvm.Pilot.@@N@@
