import JvmDerived
import JvmDerived.Pilot.@@N@@Statement
import JvmDerived.Pilot.@@N@@Code
set_option linter.unusedVariables false
set_option linter.unusedSimpArgs false
namespace Jvm.Ow
open Sem ClassFile Op Lib Bundle Jvm.Stand Jvm.Free Jvm.LawKit Jvm.RoadKit
abbrev Po : Type := Option Value → Heap → List Addr → Prop
section Defs
variable (p : Program) (l : Launch) (e : Env) (R : Room) (s : State) (m : MethodId) (args : Array Value) (below : List Frame) (meth : Method) (c : Code) (Z : State) (EL : List (String × Nat)) (n0 : Nat) (own : String)
def SafeL (vm : Vm) (h : Heap) (S : List Addr) : Prop := ∀ x ∈ S, x < h.size ∧ Safe Z EL vm h x
def Don (Q : Po) (U : State) (o : Outcome) (U' : State) (rm : Room) : Prop :=
  ∃ v L S', o = .returned v ∧ (Q v U'.heap S' ∧ Fr n0 L ∧ Old Z n0 U'.heap ∧ SafeL Z EL U'.vm U'.heap S') ∧ CHr Z EL U.vm U.heap U'.vm U'.heap ∧ ReturnedEndW U o U' L rm.cells rm.slots
def Con (y : MethodName) (bytes : ByteArray) (maxL : Nat) (ret : Option FieldType) (ws : List Jvm.Cond) (rm : Room) (as' : Array Value) (S : List Addr) (h : Heap) (Q : Po) : Prop :=
  MetFree l y (head1 (Jvm.Cond.code y bytes maxL ret :: ws) rm) (fun a U => a = as' ∧ Z.Warmed39 U.vm ∧ U.heap = h ∧ CHv Z EL U.vm h ∧ SafeL Z EL U.vm h S) (fun _ _ _ _ _ => True) (fun _ U o U' => Don Z EL n0 Q U o U' rm)
def Sit (S : List Addr) (h : Heap) (k n : Nat) (T : State) : Prop :=
  ∃ locs vm0 k0 k' n', k' ≤ k ∧ n' ≤ n ∧ Stand p l e R (s.setVm vm0) m args below meth c T locs k' n' ∧ T.heap = h ∧ s.Since vm0 k0 ∧ k0 ≤ h.size ∧ Z.Warmed39 vm0 ∧ vm0.findClass own = some m.cls ∧ Fr n0 locs ∧ Old Z n0 h ∧ CHr Z EL s.vm s.heap vm0 h ∧ SafeL Z EL vm0 h S
def Fnl (Q : Po) (t : State) : Prop := ∃ s₂ o, Steps p.tables e below t s₂ ∧ s₂.status = .running ∧ Ended s₂ below o ∧ Don Z EL n0 Q s o s₂ R
def Go (Q : Po) (S : List Addr) (h : Heap) (k n : Nat) (pc : Nat) (Ls : Array Slot) (st : List Value) : Prop :=
  ∀ T, Sit p l e R s m args below meth c Z EL n0 own S h k n T → Fnl p e R s below Z EL n0 Q (T.setTop (mkF m pc Ls st))
def Bdy (a0 : Array Value) (bytes : ByteArray) (maxL : Nat) (ret : Option FieldType) (nm : String) : Prop :=
  p.tables.exec = Jvm.exec ∧ c.code = bytes ∧ c.maxLocals = maxL ∧ meth.sig.returnType = ret ∧ meth.name = nm ∧ meth.locks = false ∧ EW Z a0 EL ∧ (∀ w ∈ Bundle.stringAtoms, w.before a0 Z = true)
end Defs
section Rules
variable {p : Program} {l : Launch} {e : Env} {R : Room} {s : State} {m : MethodId} {args : Array Value} {below : List Frame} {meth : Method} {c : Code} {Z : State} {EL : List (String × Nat)} {n0 : Nat} {own : String} {a0 : Array Value} {bytes : ByteArray} {maxL : Nat} {ret : Option FieldType} {nm : String} {Q : Po} {S S' : List Addr} {h h' : Heap} {k n k' n' pc pc' : Nat} {Ls Ls' : Array Slot} {st st' rest : List Value}
theorem SafeL.nil {vm : Vm} : SafeL Z EL vm h [] := fun _ q => nomatch q
theorem SafeL.chr {vm vm1 : Vm} (A : CHr Z EL vm h vm1 h') (q : SafeL Z EL vm h S) : SafeL Z EL vm1 h' S := fun x hx => ⟨Nat.lt_of_lt_of_le (q x hx).1 A.2.1, A.safe (q x hx).1 (q x hx).2⟩
theorem SafeL.sub {vm : Vm} (q : SafeL Z EL vm h S) (hs : ∀ x ∈ S', x ∈ S) : SafeL Z EL vm h S' := fun x hx => q x (hs x hx)
theorem SafeL.app {vm : Vm} (q : SafeL Z EL vm h S) (q' : SafeL Z EL vm h S') : SafeL Z EL vm h (S ++ S') := fun x hx => (List.mem_append.mp hx).elim (q x) (q' x)
theorem SafeL.cons {vm : Vm} {a : Addr} (ha : a < h.size ∧ Safe Z EL vm h a) (q : SafeL Z EL vm h S) : SafeL Z EL vm h (a :: S) := fun x hx => (List.mem_cons.mp hx).elim (fun z => z ▸ ha) (q x)
theorem keepE (E : Ext h h') : Keep h h' [] := (Keep.refl h []).ext E
theorem nin0 {x : Nat} : x ∉ ([] : List Nat) := fun q => nomatch q
theorem ninS {x y : Nat} {L : List Nat} (q : x ≠ y) (r : x ∉ L) : x ∉ y :: L := by simp [q, r]
theorem allI0 {P : Int32 → Prop} : ∀ x ∈ ([] : List Int32), P x := fun _ q => nomatch q
theorem allI {P : Int32 → Prop} {y : Int32} {L : List Int32} (q : P y) (r : ∀ x ∈ L, P x) : ∀ x ∈ y :: L, P x := List.forall_mem_cons.mpr ⟨q, r⟩
theorem old_le (O : Old Z n0 h) : n0 ≤ h.size := O.1 ▸ O.2.1
theorem Go.mono (hk : k ≤ k') (hn : n ≤ n') (hs : ∀ x ∈ S', x ∈ S) (hr : Go p l e R s m args below meth c Z EL n0 own Q S' h k' n' pc Ls st) : Go p l e R s m args below meth c Z EL n0 own Q S h k n pc Ls st := by
  intro T ⟨locs, vm0, k0, k1, n1, q1, q2, X, eT, hS, hk0, hZ, hown, N, O, C, SL⟩
  exact hr T ⟨locs, vm0, k0, k1, n1, Nat.le_trans q1 hk, Nat.le_trans q2 hn, X, eT, hS, hk0, hZ, hown, N, O, C, SL.sub hs⟩
theorem Go.norm (hs : ∀ x ∈ S', x ∈ S) (hst : st = st') (hr : Go p l e R s m args below meth c Z EL n0 own Q S' h k n pc Ls st') : Go p l e R s m args below meth c Z EL n0 own Q S h k n pc Ls st := by
  subst hst
  exact Go.mono (Nat.le_refl _) (Nat.le_refl _) hs hr
theorem Go.nr (hr : Go p l e R s m args below meth c Z EL n0 own Q S' h k n pc Ls st') (hst : st = st' := by rfl) : Go p l e R s m args below meth c Z EL n0 own Q (S ++ S') h k n pc Ls st := Go.norm (fun _ q => List.mem_append_right _ q) hst hr
/-- in a walk the old heap is there -/
theorem Go.old (hr : Old Z n0 h → Go p l e R s m args below meth c Z EL n0 own Q S h k n pc Ls st) : Go p l e R s m args below meth c Z EL n0 own Q S h k n pc Ls st := by
  intro T A
  have A' := A
  obtain ⟨locs, vm0, k0, k1, n1, q1, q2, X, eT, hS, hk0, hZ, hown, N, O, C, SL⟩ := A'
  exact hr O T A
/-- a join: the rest from pc1 is walked once -/
theorem Go.join {α : Type} {pc1 : Nat} (F : α → Array Slot) (D : α → List Value) (hJ : ∀ b, Go p l e R s m args below meth c Z EL n0 own Q S h k n pc1 (F b) (D b)) (hr : (∀ b, Go p l e R s m args below meth c Z EL n0 own Q S h k n pc1 (F b) (D b)) → Go p l e R s m args below meth c Z EL n0 own Q S h k n pc Ls st) : Go p l e R s m args below meth c Z EL n0 own Q S h k n pc Ls st := hr hJ
theorem Con.enter {y : MethodName} {ws : List Jvm.Cond} {rm : Room} {as' : Array Value} (hpl : plainFor y = true) (hO : Old Z n0 h) (hEW : EW Z a0 EL) (hwS : ∀ w ∈ Bundle.stringAtoms, w.before a0 Z = true)
    (body : ∀ (p : Program) (e : Env) (s : State) (m : MethodId) (below : List Frame) (meth : Method) (c : Code), Bdy p meth c Z EL a0 bytes maxL ret y.name → Go p l e rm s m as' below meth c Z EL n0 y.cls Q S h 0 0 0 Ls [])
    (hef : ∀ m : MethodId, entryFrame m as' maxL = mkF m 0 Ls [] := by intro m; first | rfl | (simp [entryFrame, mkF, argsToLocals, Value.category]; done)) :
    Con l Z EL n0 y bytes maxL ret ws rm as' S h Q := by
  refine MetFree.of_bodySF hpl hisR ?_
  intro p e s m args below meth c s₁ Bd hml0 hP hK
  obtain ⟨rfl, hZ, rfl, hC, hS⟩ := hP
  have X0 : Stand p l e rm s m args below meth c s₁ [] 0 0 := Stand.of_body Bd
  have hown : s.vm.findClass y.cls = some m.cls := findClass_of_methodNamed Bd.named
  have hnm := (name_of_methodNamed Bd.named Bd.method).1
  have e0 : s₁.heap = s.heap := by rw [Bd.state]; rfl
  rw [hef m]
  exact body p e s m below meth c ⟨Bd.exec, Bd.bytes, hml0, Bd.returns, hnm, Bd.notSynchronized, hEW, hwS⟩ s₁ ⟨[], s.vm, s.heap.size, 0, 0, Nat.le_refl _, Nat.le_refl _, X0, e0, (State.WarmedH.refl s).since _, Nat.le_refl _, hZ, hown, Fr.nil _, hO, CHr.refl hC, hS⟩
theorem plain (hr : Go p l e R s m args below meth c Z EL n0 own Q S h k n pc' Ls' st')
    (stp : ∀ T, At T m c below → ∀ t, Steps p.tables e below (T.setTop (mkF m pc' Ls' st')) t → Steps p.tables e below (T.setTop (mkF m pc Ls st)) t) : Go p l e R s m args below meth c Z EL n0 own Q S h k n pc Ls st := by
  intro T A
  have A' := A
  obtain ⟨locs, vm0, k0, k1, n1, q1, q2, X, r⟩ := A'
  obtain ⟨s2, o, q, r2⟩ := hr T A
  exact ⟨s2, o, stp T X.here _ q, r2⟩
/-- a step that may warm the tables, the heap as it was -/
theorem warm (hr : Go p l e R s m args below meth c Z EL n0 own Q S h k n pc' Ls' st')
    (stp : ∀ T vm0 locs k1 n1, Stand p l e R (s.setVm vm0) m args below meth c T locs k1 n1 → T.heap = h → Z.Warmed39 (s.setVm vm0).vm → (s.setVm vm0).vm.findClass own = some m.cls → Old Z n0 h →
      ∃ T', Stand p l e R (s.setVm vm0) m args below meth c T' locs k1 n1 ∧ T'.heap = h ∧ ∀ t, Steps p.tables e below (T'.setTop (mkF m pc' Ls' st')) t → Steps p.tables e below (T.setTop (mkF m pc Ls st)) t) : Go p l e R s m args below meth c Z EL n0 own Q S h k n pc Ls st := by
  intro T ⟨locs, vm0, k0, k1, n1, q1, q2, X, eT, hS, hk0, hZ, hown, N, O, C, SL⟩
  obtain ⟨T', X', e', sp⟩ := stp T vm0 locs k1 n1 X eT hZ hown O
  obtain ⟨s2, o, q, r2⟩ := hr T' ⟨locs, vm0, k0, k1, n1, q1, q2, X', e', hS, hk0, hZ, hown, N, O, C, SL⟩
  exact ⟨s2, o, sp _ q, r2⟩
/-- a step that makes one cell -/
theorem made {dc dn : Nat} {nn : Nat} {P : Heap → Prop} (hk : k + 1 ≤ k') (hn : n + nn ≤ n')
    (stp : ∀ T vm0 locs k1 n1, k1 ≤ k → n1 ≤ n → Stand p l e R (s.setVm vm0) m args below meth c T locs k1 n1 → T.heap = h → Z.Warmed39 (s.setVm vm0).vm → (s.setVm vm0).vm.findClass own = some m.cls →
      ∃ T' h', Stand p l e R (s.setVm vm0) m args below meth c T' locs (k1 + 1) (n1 + nn) ∧ T'.heap = h' ∧ Ext h h' ∧ h.size < h'.size ∧ P h' ∧ ∀ t, Steps p.tables e below (T'.setTop (mkF m pc' Ls' st')) t → Steps p.tables e below (T.setTop (mkF m pc Ls st)) t)
    (hr : ∀ h', Ext h h' → P h' → n0 ≤ h.size → Go p l e R s m args below meth c Z EL n0 own Q (h.size :: S) h' k' n' pc' Ls' st') : Go p l e R s m args below meth c Z EL n0 own Q S h k n pc Ls st := by
  intro T ⟨locs, vm0, k0, k1, n1, q1, q2, X, eT, hS, hk0, hZ, hown, N, O, C, SL⟩
  obtain ⟨T', h', X', e', E, lt, hP, sp⟩ := stp T vm0 locs k1 n1 q1 q2 X eT hZ hown
  have A := CHr.ext (EL := EL) (vm := vm0) E C.1
  have sf : Safe Z EL vm0 h h.size := Safe.new (Nat.le_refl _)
  obtain ⟨s2, o, q, r2⟩ := hr h' E hP (old_le O) T' ⟨locs, vm0, k0, k1 + 1, n1 + nn, by omega, by omega, X', e', hS, Nat.le_trans hk0 E.1, hZ, hown, N, O.ext E, C.trans A, (SL.chr A).cons ⟨lt, sf.ext E C.1⟩⟩
  exact ⟨s2, o, sp _ q, r2⟩
/-- a step that writes one place of one cell -/
theorem wrote {a : Addr} {sl : Nat} {v : Value} (ha : n0 ≤ a) (hsafe : ∀ vm0, Z.Warmed39 vm0 → SafeL Z EL vm0 h S → Safe Z EL vm0 h a)
    (stp : ∀ T vm0 locs k1 n1, Stand p l e R (s.setVm vm0) m args below meth c T locs k1 n1 → T.heap = h → Z.Warmed39 (s.setVm vm0).vm → (s.setVm vm0).vm.findClass own = some m.cls →
      ∃ T' h', Stand p l e R (s.setVm vm0) m args below meth c T' (locs ++ [⟨a, sl⟩]) k1 n1 ∧ T'.heap = h' ∧ Wr h h' a sl v ∧ ∀ t, Steps p.tables e below (T'.setTop (mkF m pc' Ls' st')) t → Steps p.tables e below (T.setTop (mkF m pc Ls st)) t)
    (hr : ∀ h', Wr h h' a sl v → Go p l e R s m args below meth c Z EL n0 own Q S h' k n pc' Ls' st') : Go p l e R s m args below meth c Z EL n0 own Q S h k n pc Ls st := by
  intro T ⟨locs, vm0, k0, k1, n1, q1, q2, X, eT, hS, hk0, hZ, hown, N, O, C, SL⟩
  obtain ⟨T', h', X', e', W, sp⟩ := stp T vm0 locs k1 n1 X eT hZ hown
  have A := CHr.wr (EL := EL) (vm := vm0) W (hsafe vm0 hZ SL) C.1
  obtain ⟨s2, o, q, r2⟩ := hr h' W T' ⟨_, vm0, k0, k1, n1, q1, q2, X', e', hS, by rw [W.size]; exact hk0, hZ, hown, Fr.snoc X' N ha, O.wr W ha, C.trans A, SL.chr A⟩
  exact ⟨s2, o, sp _ q, r2⟩
/-- a callee by its contract -/
theorem Con.back {y : MethodName} {bytes' : ByteArray} {maxL' : Nat} {ret' : Option FieldType} {rm : Room} {as' : Array Value} {Q' : Po} {len W : Nat} {vm0 : Vm} (hM : Con l Z EL n0 y bytes' maxL' ret' [] rm as' S h Q')
    (hZ : Z.Warmed39 vm0) (wc : (Jvm.Cond.code y bytes' maxL' ret').before a0 Z = true) (wz : (Jvm.Cond.initialized y.cls).before a0 Z = true) (hf : rm.frames + 1 ≤ R.frames) (hl : W + (maxL' + 11) + rm.locals ≤ R.locals) (hEL : EW Z a0 EL) (H : CHv Z EL vm0 h) (hSL : SafeL Z EL vm0 h S) :
    BackS l R p e below (s.setVm vm0) args y len W (fun A a => a = as' ∧ A.U.heap = h ∧ A.cells + rm.cells ≤ R.cells ∧ A.slots + rm.slots ≤ R.slots)
      (fun A _ v B => ∃ L S', (Q' v B.U.heap S' ∧ Fr n0 L ∧ Old Z n0 B.U.heap ∧ SafeL Z EL B.U.vm B.U.heap S') ∧ B.locs = A.locs ++ L ∧ B.cells = A.cells + rm.cells ∧ B.slots = A.slots + rm.slots ∧ CHr Z EL vm0 h B.U.vm B.U.heap) := by
  have loc : ∀ {m : MethodId} {meth : Method} {c : Code} {A : Pt}, Stand p l e R (s.setVm vm0) m args below meth c A.U A.locs A.cells A.slots → Z.Warmed39 A.U.vm ∧ CHr Z EL vm0 h A.U.vm h := fun Y => ⟨wtrans (s := s.setVm vm0) hZ Y.warmed, CHv.at Y hZ hEL H⟩
  apply BackS.of_freeW (bytes := bytes') (maxL := maxL') (ret := ret') (E := fun _ U o U' L k n => ∃ v S', (o, k, n) = (.returned v, rm.cells, rm.slots) ∧ CHr Z EL U.vm U.heap U'.vm U'.heap ∧ Q' v U'.heap S' ∧ Fr n0 L ∧ Old Z n0 U'.heap ∧ SafeL Z EL U'.vm U'.heap S') hM hf hl
  · rintro m meth c A a Y ⟨-, -, g1, g2⟩
    have cd : (Jvm.Cond.code y bytes' maxL' ret').before a A.U = true := mv (loc Y).1 wc
    have ct : (Jvm.Cond.and (Jvm.Cond.code y bytes' maxL' ret') .tt).before a A.U = true := by rw [Cond.before_and, cd]; rfl
    exact ⟨ct, cd, mv (loc Y).1 wz, g1, g2⟩
  · rintro m meth c A a g mk Y ⟨g1, g2, -⟩
    exact ⟨g1, (loc Y).1, g2, (loc Y).2.1, hSL.chr (loc Y).2⟩
  · intros; trivial
  · rintro _ _ _ _ ⟨v, L, S', rfl, d, hC, hE⟩
    exact ⟨L, _, _, hE, v, S', rfl, hC, d⟩
  · rintro m meth c A a g mk v t L k n Y ⟨-, rfl, -⟩ - - ⟨v', S', o1, hC, d⟩
    cases o1
    exact ⟨L, S', d, rfl, rfl, rfl, (loc Y).2.trans hC⟩
abbrev NoH (y : MethodName) : Prop := y.cls ≠ "java/lang/invoke/MethodHandle" ∧ y.cls ≠ "java/lang/invoke/VarHandle"
/-- behind a call -/
theorem after {T : State} {vm0 : Vm} {k0 k1 n1 : Nat} {rm : Room} {Q' : Po} {v : Option Value} {P : Pt} {locs : List Loc} {t0 : State} (hS : s.Since vm0 k0) (hk0 : k0 ≤ h.size) (eT : T.heap = h) (q1 : k1 ≤ k) (q2 : n1 ≤ n) (hk : k + rm.cells ≤ k') (hn : n + rm.slots ≤ n')
    (hZ : Z.Warmed39 vm0) (hown : vm0.findClass own = some m.cls) (N : Fr n0 locs) (C : CHr Z EL s.vm s.heap vm0 h) (SL : SafeL Z EL vm0 h S)
    (X' : Stand p l e R ((s.setVm vm0).setVm P.U.vm) m args below meth c P.U P.locs P.cells P.slots) (h2 : (s.setVm vm0).Since P.U.vm P.U.heap.size) (hg : T.heap.size ≤ P.U.heap.size)
    (hpost : ∃ L S', (Q' v P.U.heap S' ∧ Fr n0 L ∧ Old Z n0 P.U.heap ∧ SafeL Z EL P.U.vm P.U.heap S') ∧ P.locs = locs ++ L ∧ P.cells = k1 + rm.cells ∧ P.slots = n1 + rm.slots ∧ CHr Z EL vm0 h P.U.vm P.U.heap)
    (hst : Steps p.tables e below t0 (P.U.setTop (mkF m pc' Ls (v.toList ++ rest))))
    (hr : ∀ v h' S', Q' v h' S' → h.size ≤ h'.size → Go p l e R s m args below meth c Z EL n0 own Q (S' ++ S) h' k' n' pc' Ls (v.toList ++ rest)) : Fnl p e R s below Z EL n0 Q t0 := by
  obtain ⟨L, S', ⟨hQ, N', O', SL'⟩, e1, e2, e3, C'⟩ := hpost
  obtain ⟨Y, hS2, hZ2, hown2⟩ := rebS hS (by rw [eT]; exact hk0) X' h2 hg hZ hown
  obtain ⟨s2, o, q, r2⟩ := hr v P.U.heap S' hQ C'.2.1 P.U ⟨P.locs, P.U.vm, P.U.heap.size, P.cells, P.slots, by omega, by omega, Y, rfl, hS2, Nat.le_refl _, hZ2, hown2, e1 ▸ N.app N', O', C.trans C', SL'.app (SL.chr C')⟩
  exact ⟨s2, o, hst.trans q, r2⟩
theorem iload (B : Bdy p meth c Z EL a0 bytes maxL ret nm) {j : Nat} {x : Int32} (hd : decode bytes pc = .ok (.iload j, 2)) (hr : Go p l e R s m args below meth c Z EL n0 own Q S h k n pc' Ls (.int x :: st)) (hp : pc' = pc + 2 := by rfl) (hl : Ls[j]? = some (.val (.int x)) := by rfl) : Go p l e R s m args below meth c Z EL n0 own Q S h k n pc Ls st := by
  subst hp
  exact plain hr fun T A t q => XS.iload A B.1 rfl (hb B.2.1 hd) hl q
theorem iloadN (B : Bdy p meth c Z EL a0 bytes maxL ret nm) {j : Fin 4} {x : Int32} (hd : decode bytes pc = .ok (.iload_n j, 1)) (hr : Go p l e R s m args below meth c Z EL n0 own Q S h k n pc' Ls (.int x :: st)) (hp : pc' = pc + 1 := by rfl) (hl : Ls[j.val]? = some (.val (.int x)) := by rfl) : Go p l e R s m args below meth c Z EL n0 own Q S h k n pc Ls st := by
  subst hp
  exact plain hr fun T A t q => XS.iloadN A B.1 rfl (hb B.2.1 hd) hl q
theorem aload (B : Bdy p meth c Z EL a0 bytes maxL ret nm) {j : Nat} {v : Value} (hd : decode bytes pc = .ok (.aload j, 2)) (hr : Go p l e R s m args below meth c Z EL n0 own Q S h k n pc' Ls (v :: st)) (hp : pc' = pc + 2 := by rfl) (hl : Ls[j]? = some (.val v) := by rfl) (hv : v.isRef = true := by rfl) : Go p l e R s m args below meth c Z EL n0 own Q S h k n pc Ls st := by
  subst hp
  exact plain hr fun T A t q => XS.aload A B.1 rfl (hb B.2.1 hd) hl hv q
theorem aloadN (B : Bdy p meth c Z EL a0 bytes maxL ret nm) {j : Fin 4} {v : Value} (hd : decode bytes pc = .ok (.aload_n j, 1)) (hr : Go p l e R s m args below meth c Z EL n0 own Q S h k n pc' Ls (v :: st)) (hp : pc' = pc + 1 := by rfl) (hl : Ls[j.val]? = some (.val v) := by rfl) (hv : v.isRef = true := by rfl) : Go p l e R s m args below meth c Z EL n0 own Q S h k n pc Ls st := by
  subst hp
  exact plain hr fun T A t q => XS.aloadN A B.1 rfl (hb B.2.1 hd) hl hv q
theorem istore (B : Bdy p meth c Z EL a0 bytes maxL ret nm) {j : Nat} {x : Int32} (hd : decode bytes pc = .ok (.istore j, 2)) (hr : Go p l e R s m args below meth c Z EL n0 own Q S h k n pc' Ls' st) (hp : pc' = pc + 2 := by rfl) (hl : storeLocals Ls j (.int x) = some Ls' := by rfl) : Go p l e R s m args below meth c Z EL n0 own Q S h k n pc Ls (.int x :: st) := by
  subst hp
  exact plain hr fun T A t q => XS.istore A B.1 rfl (hb B.2.1 hd) rfl hl q
theorem istoreN (B : Bdy p meth c Z EL a0 bytes maxL ret nm) {j : Fin 4} {x : Int32} (hd : decode bytes pc = .ok (.istore_n j, 1)) (hr : Go p l e R s m args below meth c Z EL n0 own Q S h k n pc' Ls' st) (hp : pc' = pc + 1 := by rfl) (hl : storeLocals Ls j.val (.int x) = some Ls' := by rfl) : Go p l e R s m args below meth c Z EL n0 own Q S h k n pc Ls (.int x :: st) := by
  subst hp
  exact plain hr fun T A t q => XS.istoreN A B.1 rfl (hb B.2.1 hd) rfl hl q
theorem astore (B : Bdy p meth c Z EL a0 bytes maxL ret nm) {j : Nat} {v : Value} (hd : decode bytes pc = .ok (.astore j, 2)) (hr : Go p l e R s m args below meth c Z EL n0 own Q S h k n pc' Ls' st) (hp : pc' = pc + 2 := by rfl) (hv : v.isRef = true := by rfl) (hl : storeLocals Ls j v = some Ls' := by rfl) : Go p l e R s m args below meth c Z EL n0 own Q S h k n pc Ls (v :: st) := by
  subst hp
  exact plain hr fun T A t q => XS.astore A B.1 rfl (hb B.2.1 hd) rfl hv hl q
theorem astoreN (B : Bdy p meth c Z EL a0 bytes maxL ret nm) {j : Fin 4} {v : Value} (hd : decode bytes pc = .ok (.astore_n j, 1)) (hr : Go p l e R s m args below meth c Z EL n0 own Q S h k n pc' Ls' st) (hp : pc' = pc + 1 := by rfl) (hv : v.isRef = true := by rfl) (hl : storeLocals Ls j.val v = some Ls' := by rfl) : Go p l e R s m args below meth c Z EL n0 own Q S h k n pc Ls (v :: st) := by
  subst hp
  exact plain hr fun T A t q => XS.astoreN A B.1 rfl (hb B.2.1 hd) rfl hv hl q
theorem iinc (B : Bdy p meth c Z EL a0 bytes maxL ret nm) {j : Nat} {cst : Int} {x y : Int32} (hd : decode bytes pc = .ok (.iinc j cst, 3)) (hr : Go p l e R s m args below meth c Z EL n0 own Q S h k n pc' Ls' st) (hp : pc' = pc + 3 := by rfl) (hl : Ls[j]? = some (.val (.int x)) := by rfl) (hy : y = x + Int32.ofInt cst := by first | rfl | decide) (hl' : storeLocals Ls j (.int y) = some Ls' := by rfl) : Go p l e R s m args below meth c Z EL n0 own Q S h k n pc Ls st := by
  subst hp
  exact plain hr fun T A t q => XS.iinc A B.1 rfl (hb B.2.1 hd) hl (hy ▸ hl') q
theorem iconst (B : Bdy p meth c Z EL a0 bytes maxL ret nm) {i : Int} {x : Int32} (hd : decode bytes pc = .ok (.iconst i, 1)) (hr : Go p l e R s m args below meth c Z EL n0 own Q S h k n pc' Ls (.int x :: st)) (hp : pc' = pc + 1 := by rfl) (hi : Int32.ofInt i = x := by first | rfl | decide) : Go p l e R s m args below meth c Z EL n0 own Q S h k n pc Ls st := by
  subst hp
  exact plain hr fun T A t q => XS.iconst A B.1 rfl (hb B.2.1 hd) (hi ▸ q)
theorem bipush (B : Bdy p meth c Z EL a0 bytes maxL ret nm) {i : Int} {x : Int32} (hd : decode bytes pc = .ok (.bipush i, 2)) (hr : Go p l e R s m args below meth c Z EL n0 own Q S h k n pc' Ls (.int x :: st)) (hp : pc' = pc + 2 := by rfl) (hi : (Int8.ofInt i).toInt32 = x := by first | rfl | decide) : Go p l e R s m args below meth c Z EL n0 own Q S h k n pc Ls st := by
  subst hp
  exact plain hr fun T A t q => XS.bipush A B.1 rfl (hb B.2.1 hd) (hi ▸ q)
theorem sipush (B : Bdy p meth c Z EL a0 bytes maxL ret nm) {i : Int} {x : Int32} (hd : decode bytes pc = .ok (.sipush i, 3)) (hr : Go p l e R s m args below meth c Z EL n0 own Q S h k n pc' Ls (.int x :: st)) (hp : pc' = pc + 3 := by rfl) (hi : (Int16.ofInt i).toInt32 = x := by first | rfl | decide) : Go p l e R s m args below meth c Z EL n0 own Q S h k n pc Ls st := by
  subst hp
  exact plain hr fun T A t q => XS.sipush A B.1 rfl (hb B.2.1 hd) (hi ▸ q)
theorem aconstNull (B : Bdy p meth c Z EL a0 bytes maxL ret nm)  (hd : decode bytes pc = .ok (.aconst_null, 1)) (hr : Go p l e R s m args below meth c Z EL n0 own Q S h k n pc' Ls (.null :: st)) (hp : pc' = pc + 1 := by rfl)  : Go p l e R s m args below meth c Z EL n0 own Q S h k n pc Ls st := by
  subst hp
  exact plain hr fun T A t q => XS.aconstNull A B.1 rfl (hb B.2.1 hd) q
theorem iadd (B : Bdy p meth c Z EL a0 bytes maxL ret nm) {x y z : Int32} (hd : decode bytes pc = .ok (.iadd, 1)) (hr : Go p l e R s m args below meth c Z EL n0 own Q S h k n pc' Ls (.int z :: st)) (hp : pc' = pc + 1 := by rfl) (hz : x + y = z := by first | rfl | decide) : Go p l e R s m args below meth c Z EL n0 own Q S h k n pc Ls (.int y :: .int x :: st) := by
  subst hp
  exact plain hr fun T A t q => XS.iadd A B.1 rfl (hb B.2.1 hd) rfl (hz ▸ q)
theorem isub (B : Bdy p meth c Z EL a0 bytes maxL ret nm) {x y z : Int32} (hd : decode bytes pc = .ok (.isub, 1)) (hr : Go p l e R s m args below meth c Z EL n0 own Q S h k n pc' Ls (.int z :: st)) (hp : pc' = pc + 1 := by rfl) (hz : x - y = z := by first | rfl | decide) : Go p l e R s m args below meth c Z EL n0 own Q S h k n pc Ls (.int y :: .int x :: st) := by
  subst hp
  exact plain hr fun T A t q => XS.isub A B.1 rfl (hb B.2.1 hd) rfl (hz ▸ q)
theorem iand (B : Bdy p meth c Z EL a0 bytes maxL ret nm) {x y z : Int32} (hd : decode bytes pc = .ok (.iand, 1)) (hr : Go p l e R s m args below meth c Z EL n0 own Q S h k n pc' Ls (.int z :: st)) (hp : pc' = pc + 1 := by rfl) (hz : x &&& y = z := by first | rfl | decide) : Go p l e R s m args below meth c Z EL n0 own Q S h k n pc Ls (.int y :: .int x :: st) := by
  subst hp
  exact plain hr fun T A t q => XS.iand A B.1 rfl (hb B.2.1 hd) rfl (hz ▸ q)
theorem ior (B : Bdy p meth c Z EL a0 bytes maxL ret nm) {x y z : Int32} (hd : decode bytes pc = .ok (.ior, 1)) (hr : Go p l e R s m args below meth c Z EL n0 own Q S h k n pc' Ls (.int z :: st)) (hp : pc' = pc + 1 := by rfl) (hz : x ||| y = z := by first | rfl | decide) : Go p l e R s m args below meth c Z EL n0 own Q S h k n pc Ls (.int y :: .int x :: st) := by
  subst hp
  exact plain hr fun T A t q => XT.ior A B.1 rfl (hb B.2.1 hd) rfl (hz ▸ q)
theorem ishl (B : Bdy p meth c Z EL a0 bytes maxL ret nm) {x y z : Int32} (hd : decode bytes pc = .ok (.ishl, 1)) (hr : Go p l e R s m args below meth c Z EL n0 own Q S h k n pc' Ls (.int z :: st)) (hp : pc' = pc + 1 := by rfl) (hz : x <<< (y &&& 31) = z := by first | rfl | decide) : Go p l e R s m args below meth c Z EL n0 own Q S h k n pc Ls (.int y :: .int x :: st) := by
  subst hp
  exact plain hr fun T A t q => XT.ishl A B.1 rfl (hb B.2.1 hd) rfl (hz ▸ q)
theorem ishr (B : Bdy p meth c Z EL a0 bytes maxL ret nm) {x y z : Int32} (hd : decode bytes pc = .ok (.ishr, 1)) (hr : Go p l e R s m args below meth c Z EL n0 own Q S h k n pc' Ls (.int z :: st)) (hp : pc' = pc + 1 := by rfl) (hz : x >>> (y &&& 31) = z := by first | rfl | decide) : Go p l e R s m args below meth c Z EL n0 own Q S h k n pc Ls (.int y :: .int x :: st) := by
  subst hp
  exact plain hr fun T A t q => XT.ishr A B.1 rfl (hb B.2.1 hd) rfl (hz ▸ q)
theorem iushr (B : Bdy p meth c Z EL a0 bytes maxL ret nm) {x y z : Int32} (hd : decode bytes pc = .ok (.iushr, 1)) (hr : Go p l e R s m args below meth c Z EL n0 own Q S h k n pc' Ls (.int z :: st)) (hp : pc' = pc + 1 := by rfl) (hz : Jvm.Free.XT.ushr x y = z := by first | rfl | decide) : Go p l e R s m args below meth c Z EL n0 own Q S h k n pc Ls (.int y :: .int x :: st) := by
  subst hp
  exact plain hr fun T A t q => XT.iushr A B.1 rfl (hb B.2.1 hd) rfl (hz ▸ q)
theorem irem (B : Bdy p meth c Z EL a0 bytes maxL ret nm) {x y z : Int32} (hd : decode bytes pc = .ok (.irem, 1)) (hr : Go p l e R s m args below meth c Z EL n0 own Q S h k n pc' Ls (.int z :: st)) (hp : pc' = pc + 1 := by rfl) (hy : y ≠ 0 := by first | rfl | decide) (hz : x % y = z := by first | rfl | decide) : Go p l e R s m args below meth c Z EL n0 own Q S h k n pc Ls (.int y :: .int x :: st) := by
  subst hp
  exact plain hr fun T A t q => XS.irem A B.1 rfl (hb B.2.1 hd) rfl hy (by rw [irem_eq_mod x y, hz]; exact q)
theorem i2b (B : Bdy p meth c Z EL a0 bytes maxL ret nm) {x z : Int32} (hd : decode bytes pc = .ok (.i2b, 1)) (hr : Go p l e R s m args below meth c Z EL n0 own Q S h k n pc' Ls (.int z :: st)) (hp : pc' = pc + 1 := by rfl) (hz : x.toInt8.toInt32 = z := by first | rfl | decide) : Go p l e R s m args below meth c Z EL n0 own Q S h k n pc Ls (.int x :: st) := by
  subst hp
  exact plain hr fun T A t q => XT.i2b A B.1 rfl (hb B.2.1 hd) rfl (hz ▸ q)
theorem i2c (B : Bdy p meth c Z EL a0 bytes maxL ret nm) {x z : Int32} (hd : decode bytes pc = .ok (.i2c, 1)) (hr : Go p l e R s m args below meth c Z EL n0 own Q S h k n pc' Ls (.int z :: st)) (hp : pc' = pc + 1 := by rfl) (hz : x.toUInt32.toUInt16.toUInt32.toInt32 = z := by first | rfl | decide) : Go p l e R s m args below meth c Z EL n0 own Q S h k n pc Ls (.int x :: st) := by
  subst hp
  exact plain hr fun T A t q => XT.i2c A B.1 rfl (hb B.2.1 hd) rfl (hz ▸ q)
theorem dup (B : Bdy p meth c Z EL a0 bytes maxL ret nm) {v : Value} (hd : decode bytes pc = .ok (.dup, 1)) (hr : Go p l e R s m args below meth c Z EL n0 own Q S h k n pc' Ls (v :: v :: st)) (hp : pc' = pc + 1 := by rfl) (hc : v.category = 1 := by rfl) : Go p l e R s m args below meth c Z EL n0 own Q S h k n pc Ls (v :: st) := by
  subst hp
  exact plain hr fun T A t q => XS.dup A B.1 rfl (hb B.2.1 hd) rfl hc q
theorem pop (B : Bdy p meth c Z EL a0 bytes maxL ret nm) {v : Value} (hd : decode bytes pc = .ok (.pop, 1)) (hr : Go p l e R s m args below meth c Z EL n0 own Q S h k n pc' Ls st) (hp : pc' = pc + 1 := by rfl) (hc : v.category = 1 := by rfl) : Go p l e R s m args below meth c Z EL n0 own Q S h k n pc Ls (v :: st) := by
  subst hp
  exact plain hr fun T A t q => XT.pop A B.1 rfl (hb B.2.1 hd) rfl hc q
theorem goto (B : Bdy p meth c Z EL a0 bytes maxL ret nm) {o : Int} (hd : decode bytes pc = .ok (.goto o, 3)) (hr : Go p l e R s m args below meth c Z EL n0 own Q S h k n pc' Ls st) (ho : 0 ≤ (pc : Int) + o := by decide) (hp : ((pc : Int) + o).toNat = pc' := by decide) : Go p l e R s m args below meth c Z EL n0 own Q S h k n pc Ls st := plain hr fun T A t q => XS.goto A B.1 rfl (pc0 := pc) rfl (hb B.2.1 hd) ho hp q
theorem ifT (B : Bdy p meth c Z EL a0 bytes maxL ret nm) {cd : ClassFile.Cond} {x : Int32} {o : Int} (hd : decode bytes pc = .ok (.ifCond cd o, 3)) (hc : if_icmp.holds cd x 0 = true) (hr : Go p l e R s m args below meth c Z EL n0 own Q S h k n pc' Ls st) (ho : 0 ≤ (pc : Int) + o := by decide) (hp : ((pc : Int) + o).toNat = pc' := by decide) : Go p l e R s m args below meth c Z EL n0 own Q S h k n pc Ls (.int x :: st) := plain hr fun T A t q => XS.ifYes A B.1 rfl (pc0 := pc) rfl (hb B.2.1 hd) rfl ((if0 cd x).trans hc) ho hp q
theorem ifF (B : Bdy p meth c Z EL a0 bytes maxL ret nm) {cd : ClassFile.Cond} {x : Int32} {o : Int} (hd : decode bytes pc = .ok (.ifCond cd o, 3)) (hc : if_icmp.holds cd x 0 = false) (hr : Go p l e R s m args below meth c Z EL n0 own Q S h k n pc' Ls st) (hp : pc' = pc + 3 := by rfl) : Go p l e R s m args below meth c Z EL n0 own Q S h k n pc Ls (.int x :: st) := by
  subst hp
  exact plain hr fun T A t q => XS.ifNo A B.1 rfl (hb B.2.1 hd) rfl ((if0 cd x).trans hc) q
theorem icmpT (B : Bdy p meth c Z EL a0 bytes maxL ret nm) {cd : ClassFile.Cond} {x y : Int32} {o : Int} (hd : decode bytes pc = .ok (.if_icmp cd o, 3)) (hc : if_icmp.holds cd x y = true) (hr : Go p l e R s m args below meth c Z EL n0 own Q S h k n pc' Ls st) (ho : 0 ≤ (pc : Int) + o := by decide) (hp : ((pc : Int) + o).toNat = pc' := by decide) : Go p l e R s m args below meth c Z EL n0 own Q S h k n pc Ls (.int y :: .int x :: st) := plain hr fun T A t q => XS.icmpYes A B.1 rfl (pc0 := pc) rfl (hb B.2.1 hd) rfl hc ho hp q
theorem icmpF (B : Bdy p meth c Z EL a0 bytes maxL ret nm) {cd : ClassFile.Cond} {x y : Int32} {o : Int} (hd : decode bytes pc = .ok (.if_icmp cd o, 3)) (hc : if_icmp.holds cd x y = false) (hr : Go p l e R s m args below meth c Z EL n0 own Q S h k n pc' Ls st) (hp : pc' = pc + 3 := by rfl) : Go p l e R s m args below meth c Z EL n0 own Q S h k n pc Ls (.int y :: .int x :: st) := by
  subst hp
  exact plain hr fun T A t q => XS.icmpNo A B.1 rfl (hb B.2.1 hd) rfl hc q
theorem callStatic (B : Bdy p meth c Z EL a0 bytes maxL ret nm) {index : Nat} {y : MethodName} {bytes' : ByteArray} {maxL' : Nat} {ret' : Option FieldType} {rm : Room} {S1 : List Addr} {Q' : Po} {argsL : List Value} {ps : List FieldType} {rt : Option FieldType} {W : Nat} (hd : decode bytes pc = .ok (.invokestatic index, 3)) (w1 : (Jvm.Cond.methodLink own index y).before a0 Z = true) (w2 : (Jvm.Cond.static y).before a0 Z = true) (w3 : (Jvm.Cond.initialized y.cls).before a0 Z = true) (w4 : (Jvm.Cond.code y bytes' maxL' ret').before a0 Z = true) 
    (hM : Con l Z EL n0 y bytes' maxL' ret' [] rm argsL.toArray S1 h Q') (hpd : parseMethodDescriptor y.desc = some ⟨ps, rt⟩)
    (hr : ∀ v h' S', Q' v h' S' → h.size ≤ h'.size → Go p l e R s m args below meth c Z EL n0 own Q (S' ++ S) h' k' n' pc' Ls (v.toList ++ rest)) (hp : pc' = pc + 3 := by rfl) (hln : argsL.length = ps.length := by rfl) (hW : (rest.map fun v => v.category).sum ≤ W := by exact Nat.le_of_eq rfl) (hf : rm.frames + 1 ≤ R.frames := by decide) (hl : W + (maxL' + 11) + rm.locals ≤ R.locals := by decide) (hk : k + rm.cells ≤ k' := by decide) (hn : n + rm.slots ≤ n' := by decide) (hkR : k' ≤ R.cells := by decide) (hnR : n' ≤ R.slots := by decide) (hsub : ∀ x ∈ S1, x ∈ S := by simp) (hsz : Ls.size = maxL := by rfl) (hst : st = argsL.reverse ++ rest := by rfl) (hy : NoH y := by decide) : Go p l e R s m args below meth c Z EL n0 own Q S h k n pc Ls st := by
  subst hp hst
  intro T ⟨locs, vm0, k0, k1, n1, q1, q2, X, eT, hS, hk0, hZ, hown, N, O, C, SL⟩
  obtain ⟨v, vm1, P, hW1, X', h2, hg, hpost, hst⟩ := callSS X B.1 (y := y) hown (mvT (s := s.setVm vm0) hZ w1) (mvT (s := s.setVm vm0) hZ w2) (mvT (s := s.setVm vm0) hZ w3) (mvT (s := s.setVm vm0) hZ w4) hy (Con.back (W := W) hM hZ w4 w3 hf hl B.2.2.2.2.2.2.1 C.1 (SL.sub hsub)) (g := mkF m pc Ls (argsL.reverse ++ rest)) rfl (by rw [B.2.2.1]; exact hsz) (argsL := argsL) (rest := rest) (lenOf hpd hln) rfl (by show 2 * 0 + _ ≤ _; omega) (hb B.2.1 hd) (fun _ _ => ⟨rfl, eT, by show k1 + _ ≤ _; omega, by show n1 + _ ≤ _; omega⟩)
  exact after hS hk0 eT q1 q2 hk hn hZ hown N C SL X' h2 hg hpost hst hr
theorem callInit (B : Bdy p meth c Z EL a0 bytes maxL ret nm) {index : Nat} {y : MethodName} {bytes' : ByteArray} {maxL' : Nat} {rm : Room} {S1 : List Addr} {Q' : Po} {argsL : List Value} {ps : List FieldType} {rt : Option FieldType} {W : Nat} {a : Addr} (hd : decode bytes pc = .ok (.invokespecial index, 3)) (w1 : (Jvm.Cond.methodLink own index y).before a0 Z = true) (w2 : (Jvm.Cond.instanceMethod y).before a0 Z = true) (w3 : (Jvm.Cond.initialized y.cls).before a0 Z = true) (w4 : (Jvm.Cond.code y bytes' maxL' none).before a0 Z = true) 
    (hM : Con l Z EL n0 y bytes' maxL' none [] rm (.ref a :: argsL).toArray S1 h Q') (hpd : parseMethodDescriptor y.desc = some ⟨ps, rt⟩)
    (hr : ∀ v h' S', Q' v h' S' → h.size ≤ h'.size → Go p l e R s m args below meth c Z EL n0 own Q (S' ++ S) h' k' n' pc' Ls (v.toList ++ rest)) (hp : pc' = pc + 3 := by rfl) (hln : argsL.length = ps.length := by rfl) (hW : (rest.map fun v => v.category).sum ≤ W := by exact Nat.le_of_eq rfl) (hf : rm.frames + 1 ≤ R.frames := by decide) (hl : W + (maxL' + 11) + rm.locals ≤ R.locals := by decide) (hk : k + rm.cells ≤ k' := by decide) (hn : n + rm.slots ≤ n' := by decide) (hkR : k' ≤ R.cells := by decide) (hnR : n' ≤ R.slots := by decide) (hsub : ∀ x ∈ S1, x ∈ S := by simp) (hsz : Ls.size = maxL := by rfl) (hst : st = argsL.reverse ++ .ref a :: rest := by rfl) (hy : NoH y := by decide) (hy1 : y.name = "<init>" := by rfl) : Go p l e R s m args below meth c Z EL n0 own Q S h k n pc Ls st := by
  subst hp hst
  intro T ⟨locs, vm0, k0, k1, n1, q1, q2, X, eT, hS, hk0, hZ, hown, N, O, C, SL⟩
  obtain ⟨v, vm1, P, hW1, X', h2, hg, hpost, hst⟩ := X.specialBackS B.1 (y := y) hy1 hown (mvT (s := s.setVm vm0) hZ w1) (mvT (s := s.setVm vm0) hZ w2) (mvT (s := s.setVm vm0) hZ w4) hy (Con.back (W := W) hM hZ w4 w3 hf hl B.2.2.2.2.2.2.1 C.1 (SL.sub hsub)) (g := mkF m pc Ls (argsL.reverse ++ .ref a :: rest)) rfl (by rw [B.2.2.1]; exact hsz) (Steps.refl _) (a := a) (argsL := argsL) (rest := rest) (lenOf hpd hln) rfl (by show 2 * 0 + _ ≤ _; omega) (hb B.2.1 hd) (fun _ _ => ⟨rfl, eT, by show k1 + _ ≤ _; omega, by show n1 + _ ≤ _; omega⟩)
  exact after hS hk0 eT q1 q2 hk hn hZ hown N C SL X' h2 hg hpost hst hr
theorem callVirtual (B : Bdy p meth c Z EL a0 bytes maxL ret nm) {index : Nat} {y : MethodName} {bytes' : ByteArray} {maxL' : Nat} {ret' : Option FieldType} {rm : Room} {S1 : List Addr} {Q' : Po} {argsL : List Value} {ps : List FieldType} {rt : Option FieldType} {W : Nat} {a : Addr} {K K' : String} {z : MethodName} (hd : decode bytes pc = .ok (.invokevirtual index, 3)) (w1 : (Jvm.Cond.methodLink own index y).before a0 Z = true) (w2 : (Jvm.Cond.declares y).before a0 Z = true) (w0 : (Jvm.Cond.selects K' y y).before a0 Z = true) (w5 : (Jvm.Cond.selects K y z).before a0 Z = true) (w6 : (Jvm.Cond.instanceMethod z).before a0 Z = true) (w3 : (Jvm.Cond.initialized z.cls).before a0 Z = true) (w4 : (Jvm.Cond.code z bytes' maxL' ret').before a0 Z = true) (E : Exa Z h a K)
    (hM : Con l Z EL n0 z bytes' maxL' ret' [] rm (.ref a :: argsL).toArray S1 h Q') (hpd : parseMethodDescriptor y.desc = some ⟨ps, rt⟩)
    (hr : ∀ v h' S', Q' v h' S' → h.size ≤ h'.size → Go p l e R s m args below meth c Z EL n0 own Q (S' ++ S) h' k' n' pc' Ls (v.toList ++ rest)) (hp : pc' = pc + 3 := by rfl) (hln : argsL.length = ps.length := by rfl) (hW : (rest.map fun v => v.category).sum ≤ W := by exact Nat.le_of_eq rfl) (hf : rm.frames + 1 ≤ R.frames := by decide) (hl : W + (maxL' + 11) + rm.locals ≤ R.locals := by decide) (hk : k + rm.cells ≤ k' := by decide) (hn : n + rm.slots ≤ n' := by decide) (hkR : k' ≤ R.cells := by decide) (hnR : n' ≤ R.slots := by decide) (hsub : ∀ x ∈ S1, x ∈ S := by simp) (hsz : Ls.size = maxL := by rfl) (hst : st = argsL.reverse ++ .ref a :: rest := by rfl) (hy : NoH y := by decide) : Go p l e R s m args below meth c Z EL n0 own Q S h k n pc Ls st := by
  subst hp hst
  intro T ⟨locs, vm0, k0, k1, n1, q1, q2, X, eT, hS, hk0, hZ, hown, N, O, C, SL⟩
  obtain ⟨cq, kq, qa, qb, qc⟩ := isOf (s := s.setVm vm0) hZ eT E
  obtain ⟨v, vm1, P, hW1, X', h2, hg, hpost, hst⟩ := X.virtualBackS B.1 (y := y) (z := z) hown (mvT (s := s.setVm vm0) hZ w1) (mvT (s := s.setVm vm0) hZ w2) (notFace_of_selects (args := #[]) (mvT (s := s.setVm vm0) hZ w0)) (mvT (s := s.setVm vm0) hZ w5) (mvT (s := s.setVm vm0) hZ w6) hy (Con.back (W := W) hM hZ w4 w3 hf hl B.2.2.2.2.2.2.1 C.1 (SL.sub hsub)) qa qc (g := mkF m pc Ls (argsL.reverse ++ .ref a :: rest)) rfl (by rw [B.2.2.1]; exact hsz) (Steps.refl _) (argsL := argsL) (rest := rest) (lenOf hpd hln) rfl (by show 2 * 0 + _ ≤ _; omega) (hb B.2.1 hd) (fun _ _ => ⟨rfl, eT, by show k1 + _ ≤ _; omega, by show n1 + _ ≤ _; omega⟩)
  exact after hS hk0 eT q1 q2 hk hn hZ hown N C SL X' h2 hg hpost hst hr
theorem selPriv {s : State} {args : Array Value} {y : MethodName} {nI : Nat} (hi : (Jvm.Cond.instanceMethod y).before args s = true) (hp : (Jvm.Cond.privateMethod y).before args s = true) (hn : (Jvm.Cond.instantiable y.cls nI).before args s = true) (hy : NoH y) : (Jvm.Cond.selects y.cls y y).before args s = true := by
  obtain ⟨mk, methM, hnamed, hmethM, hstM, habM⟩ := Cond.instanceMethod_spec hi
  obtain ⟨c, k, hc, hk, -, hfl, -⟩ := Cond.instantiable_spec hn
  have hcm : s.vm.findClass y.cls = some mk.cls := findClass_of_methodNamed hnamed
  cases hc.symm.trans hcm
  have hf := State.methodFound?_of_named hnamed hy
  have hsel := selectMethod_private (p := {}) (c := mk.cls) hmethM (Cond.privateMethod_at hp mk methM hnamed hmethM)
  simp only [Bool.or_eq_false_iff] at hfl
  simp [Cond.before, Cond.holds, Cond.value, hcm, hf, hnamed, hsel, hk, hfl.1]
theorem mvPri {Z s : State} {a0 args : Array Value} {y : MethodName} (hZ : Z.Warmed39 s.vm) (w : (Jvm.Cond.privateMethod y).before a0 Z = true) : (Jvm.Cond.privateMethod y).before args s = true := by
  have h1 : (Jvm.Cond.privateMethod y).before a0 (Z.setVm s.vm) = true := Cond.rides hZ rfl w
  exact h1
theorem callPrivate (B : Bdy p meth c Z EL a0 bytes maxL ret nm) {index : Nat} {y : MethodName} {bytes' : ByteArray} {maxL' : Nat} {ret' : Option FieldType} {rm : Room} {S1 : List Addr} {Q' : Po} {argsL : List Value} {ps : List FieldType} {rt : Option FieldType} {W : Nat} {a : Addr} {K : String} {nI : Nat} (hd : decode bytes pc = .ok (.invokevirtual index, 3)) (w1 : (Jvm.Cond.methodLink own index y).before a0 Z = true) (w6 : (Jvm.Cond.instanceMethod y).before a0 Z = true) (w5 : (Jvm.Cond.privateMethod y).before a0 Z = true) (w7 : (Jvm.Cond.instantiable y.cls nI).before a0 Z = true) (w3 : (Jvm.Cond.initialized y.cls).before a0 Z = true) (w4 : (Jvm.Cond.code y bytes' maxL' ret').before a0 Z = true) (E : Exa Z h a K)
    (hM : Con l Z EL n0 y bytes' maxL' ret' [] rm (.ref a :: argsL).toArray S1 h Q') (hpd : parseMethodDescriptor y.desc = some ⟨ps, rt⟩)
    (hr : ∀ v h' S', Q' v h' S' → h.size ≤ h'.size → Go p l e R s m args below meth c Z EL n0 own Q (S' ++ S) h' k' n' pc' Ls (v.toList ++ rest)) (hp : pc' = pc + 3 := by rfl) (hln : argsL.length = ps.length := by rfl) (hW : (rest.map fun v => v.category).sum ≤ W := by exact Nat.le_of_eq rfl) (hf : rm.frames + 1 ≤ R.frames := by decide) (hl : W + (maxL' + 11) + rm.locals ≤ R.locals := by decide) (hk : k + rm.cells ≤ k' := by decide) (hn : n + rm.slots ≤ n' := by decide) (hkR : k' ≤ R.cells := by decide) (hnR : n' ≤ R.slots := by decide) (hsub : ∀ x ∈ S1, x ∈ S := by simp) (hsz : Ls.size = maxL := by rfl) (hst : st = argsL.reverse ++ .ref a :: rest := by rfl) (hy : NoH y := by decide) : Go p l e R s m args below meth c Z EL n0 own Q S h k n pc Ls st := by
  subst hp hst
  intro T ⟨locs, vm0, k0, k1, n1, q1, q2, X, eT, hS, hk0, hZ, hown, N, O, C, SL⟩
  obtain ⟨cq, kq, qa, qb, cellB, hcell, hcls, hstat⟩ := isOf (s := s.setVm vm0) hZ eT E
  obtain ⟨v, vm1, P, hW1, X', h2, hg, hpost, hst⟩ := X.privateBackS B.1 (y := y) hown (mvT (s := s.setVm vm0) hZ w1) (mvT (s := s.setVm vm0) hZ w6) (mvT (s := s.setVm vm0) hZ (selPriv w6 w5 w7 hy)) (Cond.privateMethod_at (args := a0) (mvPri (s := s.setVm vm0) hZ w5)) (mvT (s := s.setVm vm0) hZ w4) hy (Con.back (W := W) hM hZ w4 w3 hf hl B.2.2.2.2.2.2.1 C.1 (SL.sub hsub)) (g := mkF m pc Ls (argsL.reverse ++ .ref a :: rest)) rfl (by rw [B.2.2.1]; exact hsz) (Steps.refl _) hcell (fun q e => by rw [e] at hstat; cases hstat) (argsL := argsL) (rest := rest) (lenOf hpd hln) rfl (by show 2 * 0 + _ ≤ _; omega) (hb B.2.1 hd) (fun _ _ => ⟨rfl, eT, by show k1 + _ ≤ _; omega, by show n1 + _ ≤ _; omega⟩)
  exact after hS hk0 eT q1 q2 hk hn hZ hown N C SL X' h2 hg hpost hst hr
theorem newObj (B : Bdy p meth c Z EL a0 bytes maxL ret nm) {index nn : Nat} {K : String} (hd : decode bytes pc = .ok (.new index, 3)) (w : (Jvm.Cond.classLink own index K).before a0 Z = true) (wi : (Jvm.Cond.instantiable K nn).before a0 Z = true) (wz : (Jvm.Cond.initialized K).before a0 Z = true) 
    (hr : ∀ (h' : Heap) (a : Nat), a = h.size → n0 ≤ a → Keep h h' [] → Exa Z h' a K → (∀ {O f d : String} {ty : FieldType}, Laid Z a0 K O f d → parseFieldDescriptor d = some ty → Fld Z h' a O f d (defaultValue ty)) → Go p l e R s m args below meth c Z EL n0 own Q (a :: S) h' k' n' pc' Ls (.ref a :: st)) (hp : pc' = pc + 3 := by rfl) (hk : k + 1 ≤ k' := by decide) (hn : n + nn ≤ n' := by decide) (hkR : k' ≤ R.cells := by decide) (hnR : n' ≤ R.slots := by decide) : Go p l e R s m args below meth c Z EL n0 own Q S h k n pc Ls st := by
  subst hp
  refine made (dc := 0) (dn := 0) (nn := nn) (P := fun h' => Exa Z h' h.size K ∧ ∀ (O f d : String) (ty : FieldType), Laid Z a0 K O f d → parseFieldDescriptor d = some ty → Fld Z h' h.size O f d (defaultValue ty)) hk hn ?_ (fun h' E P q => hr h' h.size rfl q (keepE E) P.1 (fun {O f d ty} a b => P.2 O f d ty a b))
  intro T vm0 locs k1 n1 q1 q2 X eT hZ hown
  obtain ⟨T', h', X', e', E, A, D, -, st⟩ := newO X B.1 hZ hown w wi wz eT (g := mkF m pc Ls st) rfl (hb B.2.1 hd) (by omega) (by omega)
  exact ⟨T', h', X', e', E, A.lt, ⟨A, fun O f d ty a b => D a b⟩, st⟩
theorem newArr (B : Bdy p meth c Z EL a0 bytes maxL ret nm) {aty : ArrayType} {z : Int32} {cap : Nat} (hd : decode bytes pc = .ok (.newarray aty, 2)) (w : (Jvm.Cond.arrayClass (newarray.typeOf aty)).before a0 Z = true) (hz : ¬ z < 0) (hcap : z.toNatClampNeg ≤ cap) 
    (hr : ∀ (h' : Heap) (a : Nat) (cA : ClassId), a = h.size → n0 ≤ a → Keep h h' [] → Arv Z h' a cA (newarray.typeOf aty) z [] (defaultValue (newarray.typeOf aty)) → Go p l e R s m args below meth c Z EL n0 own Q (a :: S) h' k' n' pc' Ls (.ref a :: rest)) (hp : pc' = pc + 2 := by rfl) (hk : k + 1 ≤ k' := by decide) (hn : n + cap ≤ n' := by decide) (hkR : k' ≤ R.cells := by decide) (hnR : n' ≤ R.slots := by decide) (hcb : cap * 8 ≤ 536870912 := by decide) : Go p l e R s m args below meth c Z EL n0 own Q S h k n pc Ls (.int z :: rest) := by
  subst hp
  refine made (dc := 0) (dn := 0) (nn := cap) (P := fun h' => ∃ cA, Arr Z h' h.size (newA cA (newarray.typeOf aty) z) (newarray.typeOf aty)) hk hn ?_ (fun h' E P q => P.elim fun cA A => hr h' h.size cA rfl q (keepE E) (Arv.new A hz))
  intro T vm0 locs k1 n1 q1 q2 X eT hZ hown
  obtain ⟨T', h', cA, X', e', E, A, st⟩ := newP X B.1 hZ w eT (g := mkF m pc Ls (.int z :: rest)) rfl (hb B.2.1 hd) (n := z) rfl hz hcap hcb (by omega) (by omega)
  exact ⟨T', h', X', e', E, A.lt, ⟨cA, A⟩, st⟩
theorem getfield (B : Bdy p meth c Z EL a0 bytes maxL ret nm) {index : Nat} {R0 O f d : String} {a : Addr} {v : Value} (hd : decode bytes pc = .ok (.getfield index, 3)) (w : (Jvm.Cond.fieldLink own index R0 f d).before a0 Z = true) (via : Via Z R0 O f d) (F : Fld Z h a O f d v) (hr : Go p l e R s m args below meth c Z EL n0 own Q S h k n pc' Ls (v :: rest)) (hp : pc' = pc + 3 := by rfl) : Go p l e R s m args below meth c Z EL n0 own Q S h k n pc Ls (.ref a :: rest) := by
  subst hp
  exact warm hr fun T vm0 locs k1 n1 X eT hZ hown _ => getF X B.1 hZ hown (host := "") (Or.inl w) via eT F (g := mkF m pc Ls (.ref a :: rest)) rfl rfl (hb B.2.1 hd)
theorem getstatic (B : Bdy p meth c Z EL a0 bytes maxL ret nm) {index : Nat} {R0 O f d : String} {v : Value} (hd : decode bytes pc = .ok (.getstatic index, 3)) (w : (Jvm.Cond.fieldLink own index R0 f d).before a0 Z = true) (via : Via Z R0 O f d) (F : Sta Z Z.heap O f d v) (hr : Go p l e R s m args below meth c Z EL n0 own Q S h k n pc' Ls (v :: st)) (hp : pc' = pc + 3 := by rfl) : Go p l e R s m args below meth c Z EL n0 own Q S h k n pc Ls st := by
  subst hp
  exact warm hr fun T vm0 locs k1 n1 X eT hZ hown O => getS X B.1 hZ hown (host := "") w via eT (F.ext O.2) (g := mkF m pc Ls st) rfl (hb B.2.1 hd)
theorem putfield (B : Bdy p meth c Z EL a0 bytes maxL ret nm) {index kk : Nat} {R0 O f d K : String} {ty : FieldType} {a : Addr} {v old : Value} (hd : decode bytes pc = .ok (.putfield index, 3)) (w : (Jvm.Cond.fieldLink own index R0 f d).before a0 Z = true) (via : Via Z R0 O f d) (F : Fld Z h a O f d old) (E : Exa Z h a K) (L : (Jvm.Cond.lays K O f d).before a0 Z = true ∨ ((Jvm.Cond.laysFinal K O f d).before a0 Z = true ∧ own = O ∧ nm = "<init>")) (wi : (Jvm.Cond.instantiable K kk).before a0 Z = true)
    (hsafe : a ∈ S ∨ (K ≠ "java/lang/String" ∧ K ≠ "[B")) (hr : ∀ h', Wr h h' a (RoadKit.slotOf Z O f d) v → Go p l e R s m args below meth c Z EL n0 own Q S h' k n pc' Ls rest) (hp : pc' = pc + 3 := by rfl) (hty : parseFieldDescriptor d = some ty := by decide) (hnn : narrow ty v = v := by rfl) (hfit : fits ty v = true := by first | rfl | decide) (ha : n0 ≤ a := by omega) : Go p l e R s m args below meth c Z EL n0 own Q S h k n pc Ls (v :: .ref a :: rest) := by
  subst hp
  exact wrote ha (fun vm0 hZ SL => hsafe.elim (fun q => (SL a q).2) (fun q => Safe.exa hZ.alike E q.1 q.2)) (fun T vm0 locs k1 n1 X eT hZ hown => putF X B.1 hZ hown (host := "") (Or.inl w) via eT F E (L.imp id fun ⟨u, v, w⟩ => ⟨u, v, B.2.2.2.2.1.trans w⟩) wi hty hnn hfit (g := mkF m pc Ls (v :: .ref a :: rest)) rfl rfl (hb B.2.1 hd)) hr
theorem castore (B : Bdy p meth c Z EL a0 bytes maxL ret nm) {a : Addr} {kc : ClassId} {z j x : Int32} {vs : List Value} {dv : Value} {i : Nat} (hd : decode bytes pc = .ok (.castore, 1)) (A : Arv Z h a kc .char z vs dv) (hj : ¬ j < 0 ∧ j < z) 
    (hr : ∀ h', Keep h h' [a] → Arv Z h' a kc .char z (vs.set i (.int (nar .char x))) dv → Go p l e R s m args below meth c Z EL n0 own Q S h' k n pc' Ls rest) (hp : pc' = pc + 1 := by rfl) (ha : n0 ≤ a := by omega) (hlt : i < vs.length := by simp) (hi : j.toNatClampNeg = i := by decide) : Go p l e R s m args below meth c Z EL n0 own Q S h k n pc Ls (.int x :: .int j :: .ref a :: rest) := by
  subst hp
  obtain ⟨cl, A1, A2, A3, A4, A5, A6⟩ := A
  exact wrote ha (fun vm0 hZ SL => Safe.arr hZ.alike A1 (by decide)) (fun T vm0 locs k1 n1 X eT hZ hown => stC X B.1 hZ eT A1 (inb_of A3 hj) (g := mkF m pc Ls (.int x :: .int j :: .ref a :: rest)) rfl rfl (hb B.2.1 hd)) (fun h' W => hr h' (Keep.of_wr W) (Arv.set A1 A2 A3 A4 A5 A6 (fits_nar_char x) W i hi hlt))
theorem bastore (B : Bdy p meth c Z EL a0 bytes maxL ret nm) {a : Addr} {kc : ClassId} {z j x : Int32} {vs : List Value} {dv : Value} {i : Nat} (hd : decode bytes pc = .ok (.bastore, 1)) (A : Arv Z h a kc .byte z vs dv) (hj : ¬ j < 0 ∧ j < z) (hsafe : a ∈ S)
    (hr : ∀ h', Keep h h' [a] → Arv Z h' a kc .byte z (vs.set i (.int (nar .byte x))) dv → Go p l e R s m args below meth c Z EL n0 own Q S h' k n pc' Ls rest) (hp : pc' = pc + 1 := by rfl) (ha : n0 ≤ a := by omega) (hlt : i < vs.length := by simp) (hi : j.toNatClampNeg = i := by decide) : Go p l e R s m args below meth c Z EL n0 own Q S h k n pc Ls (.int x :: .int j :: .ref a :: rest) := by
  subst hp
  obtain ⟨cl, A1, A2, A3, A4, A5, A6⟩ := A
  exact wrote ha (fun vm0 hZ SL => (SL a hsafe).2) (fun T vm0 locs k1 n1 X eT hZ hown => stB X B.1 hZ eT A1 (inb_of A3 hj) (g := mkF m pc Ls (.int x :: .int j :: .ref a :: rest)) rfl rfl (hb B.2.1 hd)) (fun h' W => hr h' (Keep.of_wr W) (Arv.set A1 A2 A3 A4 A5 A6 (fits_nar_byte x) W i hi hlt))
theorem arrlen (B : Bdy p meth c Z EL a0 bytes maxL ret nm) {a : Addr} {kc : ClassId} {ty : FieldType} {z : Int32} {vs : List Value} {dv : Value} (hd : decode bytes pc = .ok (.arraylength, 1)) (A : Arv Z h a kc ty z vs dv) (hr : Go p l e R s m args below meth c Z EL n0 own Q S h k n pc' Ls (.int z :: rest)) (hp : pc' = pc + 1 := by rfl) : Go p l e R s m args below meth c Z EL n0 own Q S h k n pc Ls (.ref a :: rest) := by
  subst hp
  obtain ⟨cl, A1, A2, A3, A4, A5, A6⟩ := A
  exact warm hr fun T vm0 locs k1 n1 X eT hZ hown _ => ⟨T, X, eT, fun t q => X.arraylength B.1 (by rw [eT]; exact A1.1) (State.isArrayOf_alike hZ.alike A1.2.1) (g := mkF m pc Ls (.ref a :: rest)) rfl rfl (hb B.2.1 hd) t (by rw [len_of A3 A4]; exact q)⟩
theorem caload (B : Bdy p meth c Z EL a0 bytes maxL ret nm) {a : Addr} {kc : ClassId} {z j : Int32} {vs : List Value} {dv v : Value} (hd : decode bytes pc = .ok (.caload, 1)) (A : Arv Z h a kc .char z vs dv) (hj : ¬ j < 0 ∧ j < z) (hv : vs.getD j.toNatClampNeg dv = v) (hr : Go p l e R s m args below meth c Z EL n0 own Q S h k n pc' Ls (v :: rest)) (hp : pc' = pc + 1 := by rfl) : Go p l e R s m args below meth c Z EL n0 own Q S h k n pc Ls (.int j :: .ref a :: rest) := by
  subst hp
  obtain ⟨cl, A1, A2, A3, A4, A5, A6⟩ := A
  exact warm hr fun T vm0 locs k1 n1 X eT hZ hown _ => ⟨T, X, eT, fun t q => X.caload B.1 (by rw [eT]; exact A1.1) (State.isArrayOf_alike hZ.alike A1.2.1) A1.2.2 (inb_of A3 hj) (Has.at A5 (inb_of A3 hj) hv) (g := mkF m pc Ls (.int j :: .ref a :: rest)) rfl rfl (hb B.2.1 hd) t q⟩
theorem baload (B : Bdy p meth c Z EL a0 bytes maxL ret nm) {a : Addr} {kc : ClassId} {z j : Int32} {vs : List Value} {dv v : Value} (hd : decode bytes pc = .ok (.baload, 1)) (A : Arv Z h a kc .byte z vs dv) (hj : ¬ j < 0 ∧ j < z) (hv : vs.getD j.toNatClampNeg dv = v) (hr : Go p l e R s m args below meth c Z EL n0 own Q S h k n pc' Ls (v :: rest)) (hp : pc' = pc + 1 := by rfl) : Go p l e R s m args below meth c Z EL n0 own Q S h k n pc Ls (.int j :: .ref a :: rest) := by
  subst hp
  obtain ⟨cl, A1, A2, A3, A4, A5, A6⟩ := A
  exact warm hr fun T vm0 locs k1 n1 X eT hZ hown _ => ⟨T, X, eT, fun t q => X.baloadBytes B.1 (by rw [eT]; exact A1.1) (State.isArrayOf_alike hZ.alike A1.2.1) A1.2.2 (inb_of A3 hj) (Has.at A5 (inb_of A3 hj) hv) (g := mkF m pc Ls (.int j :: .ref a :: rest)) rfl rfl (hb B.2.1 hd) t q⟩
theorem objInit (B : Bdy p meth c Z EL a0 bytes maxL ret nm) {index W : Nat} {a : Addr} (hd : decode bytes pc = .ok (.invokespecial index, 3)) (w1 : (Jvm.Cond.methodLink own index Lib.objectInit).before a0 Z = true) (w2 : (Jvm.Cond.instanceMethod Lib.objectInit).before a0 Z = true) (w3 : (Jvm.Cond.code Lib.objectInit ⟨#[0xb1]⟩ 1 none).before a0 Z = true) (hr : Go p l e R s m args below meth c Z EL n0 own Q S h k n pc' Ls rest) (hp : pc' = pc + 3 := by rfl) (hsz : Ls.size = maxL := by rfl) (hW : (rest.map fun v => v.category).sum ≤ W := by exact Nat.le_of_eq rfl) (hf : 1 ≤ R.frames := by decide) (hl : W + 12 ≤ R.locals := by decide) : Go p l e R s m args below meth c Z EL n0 own Q S h k n pc Ls (.ref a :: rest) := by
  subst hp
  exact warm hr fun T vm0 locs k1 n1 X eT hZ hown _ => initO X B.1 hZ hown w1 w2 w3 eT (g := mkF m pc Ls (.ref a :: rest)) rfl (by rw [B.2.2.1]; exact hsz) rfl (hb B.2.1 hd) hf (W := W) (by show 2 * 0 + _ ≤ _; omega) hl
/-- System.arraycopy over bytes -/
theorem acopy (B : Bdy p meth c Z EL a0 bytes maxL ret nm) {index W : Nat} {a b : Addr} {ka kb : ClassId} {z z' sp dp nn : Int32} {vs vd us : List Value} {dv dd : Value} (hd : decode bytes pc = .ok (.invokestatic index, 3)) (w1 : (Jvm.Cond.methodLink own index Jvm.Stand.acN).before a0 Z = true) (w2 : (Jvm.Cond.native Jvm.Stand.acN).before a0 Z = true) (w3 : (Jvm.Cond.static Jvm.Stand.acN).before a0 Z = true) (w4 : (Jvm.Cond.initialized "java/lang/System").before a0 Z = true)
    (A : Arv Z h a ka .byte z vs dv) (D : Arv Z h b kb .byte z' vd dd) (hsafe : b ∈ S) (hr : ∀ h', Keep h h' [b] → Arv Z h' b kb .byte z' us dd → Go p l e R s m args below meth c Z EL n0 own Q S h' k n pc' Ls rest) (hp : pc' = pc + 3 := by rfl) (hsz : Ls.size = maxL := by rfl) (ha : n0 ≤ b := by omega) (h1 : ¬ sp < 0 := by decide) (h2 : ¬ dp < 0 := by decide) (h3 : ¬ nn < 0 := by decide) (h4 : sp.toNatClampNeg + nn.toNatClampNeg ≤ z.toNatClampNeg := by decide) (h5 : dp.toNatClampNeg + nn.toNatClampNeg ≤ z'.toNatClampNeg := by decide) (hl : dp.toNatClampNeg + nn.toNatClampNeg ≤ vd.length := by decide)
    (hus : vd.take dp.toNatClampNeg ++ ((List.range nn.toNatClampNeg).map fun i => vs.getD (sp.toNatClampNeg + i) dv) ++ vd.drop (dp.toNatClampNeg + nn.toNatClampNeg) = us := by rfl) (hW : (rest.map fun v => v.category).sum ≤ W := by exact Nat.le_of_eq rfl) (hf : 1 ≤ R.frames := by decide) (hlo : W + (nativeFrameWords "java/lang/System" "arraycopy" 5 + 11) ≤ R.locals := by decide) : Go p l e R s m args below meth c Z EL n0 own Q S h k n pc Ls (.int nn :: .int dp :: .ref b :: .int sp :: .ref a :: rest) := by
  subst hp
  intro T ⟨locs, vm0, k0, k1, n1, q1, q2, X, eT, hS, hk0, hZ, hown, N, O, C, SL⟩
  obtain ⟨T', h', L, X', e', N', K, A', sp⟩ := cpA X B.1 hZ hown w1 w2 w3 w4 eT A D (Or.inl ⟨rfl, rfl⟩) h1 h2 h3 h4 h5 rfl hl N ha (g := mkF m pc Ls (.int nn :: .int dp :: .ref b :: .int sp :: .ref a :: rest)) rfl (by rw [B.2.2.1]; exact hsz) rfl (hb B.2.1 hd) hf (W := W) (by show 2 * 0 + _ ≤ _; omega) hlo
  have hs1 : ∀ x ∈ [b], Safe Z EL vm0 h x := fun x hx => by rw [List.mem_singleton.mp hx]; exact (SL b hsafe).2
  have A := CHr.keep (EL := EL) (vm := vm0) K hs1 C.1
  rw [hus] at A'
  obtain ⟨s2, o, q, r2⟩ := hr h' K A' T' ⟨L, vm0, k0, k1, n1, q1, q2, X', e', hS, Nat.le_trans hk0 K.1, hZ, hown, N', O.keep K (fun x hx => by rw [List.mem_singleton.mp hx]; exact ha), C.trans A, SL.chr A⟩
  exact ⟨s2, o, sp _ q, r2⟩
theorem ldcInt (B : Bdy p meth c Z EL a0 bytes maxL ret nm) {index : Nat} {x : Int32} (hd : decode bytes pc = .ok (.ldc index, 2)) (w : (Jvm.Cond.constant own index x).before a0 Z = true) (hr : Go p l e R s m args below meth c Z EL n0 own Q S h k n pc' Ls (.int x :: st)) (hp : pc' = pc + 2 := by rfl) : Go p l e R s m args below meth c Z EL n0 own Q S h k n pc Ls st := by
  subst hp
  exact warm hr fun T vm0 locs k1 n1 X eT hZ hown _ => ⟨T, X, eT, fun t q => X.ldcInt B.1 hown (mvT (s := s.setVm vm0) hZ w) (g := mkF m pc Ls st) rfl (hb B.2.1 hd) t q⟩
theorem ldcText (B : Bdy p meth c Z EL a0 bytes maxL ret nm) {index nn : Nat} {text : String} (hd : decode bytes pc = .ok (.ldc index, 2)) (w : (Jvm.Cond.stringLink own index text).before a0 Z = true) (hmem : (own, index) ∈ EL) {vs : List Value} {z : Int32} (ht : (∀ c ∈ text.toList, c.toNat < 256) ∧ text.toList.map (fun c => Value.int (Jvm.Lit.byteI c.toNat.toUInt16)) = vs) (hz : ¬ z < 0) (hlz : z.toNatClampNeg = vs.length) 
    (hr : ∀ (h' : Heap) (a b : Nat) (kb : ClassId), Keep h h' [] → Exa Z h' a "java/lang/String" → Fld Z h' a "java/lang/String" "coder" "B" (.int 0) → Fld Z h' a "java/lang/String" "value" "[B" (.ref b) → Arv Z h' b kb .byte z vs (.int 0) → (∀ x ∈ S, x ≠ a ∧ x ≠ b) → Go p l e R s m args below meth c Z EL n0 own Q S h' k' n' pc' Ls (.ref a :: st)) (hp : pc' = pc + 2 := by rfl) (hk : k + 2 ≤ k' := by decide) (hn : n + (nn + 4) ≤ n' := by decide) (hkR : k' ≤ R.cells := by decide) (hnR : n' ≤ R.slots := by decide) (hnn : 4 * text.toList.length ≤ nn := by decide) (hbig : nn ≤ 536870912 := by decide) : Go p l e R s m args below meth c Z EL n0 own Q S h k n pc Ls st := by
  subst hp
  intro T ⟨locs, vm0, k0, k1, n1, q1, q2, X, eT, hS, hk0, hZ, hown, N, O, C, SL⟩
  obtain ⟨a, T', h', k2, b, kb, X', e', E, hS', hk', hZ', hown', f1, f2, f3, f4, -, -, C', -, ne, sp⟩ := ldcCH (EL := EL) X B.1 hZ hown w B.2.2.2.2.2.2.2 eT hS hk0 B.2.2.2.2.2.2.1 hmem C.1 ht hz hlz (g := mkF m pc Ls st) rfl (hb B.2.1 hd) hnn hbig (by omega) (by omega)
  have SL' := SL.chr C'
  obtain ⟨s2, o, q, r2⟩ := hr h' a b kb (keepE E) f1 f2 f3 f4 (fun x hx => ne x (SL' x hx).2) T' ⟨locs, T'.vm, k2, k1 + 2, n1 + (nn + 4), by omega, by omega, X', e', hS', hk', hZ', hown', N, O.ext E, C.trans C', SL'⟩
  exact ⟨s2, o, sp _ q, r2⟩
theorem finish (B : Bdy p meth c Z EL a0 bytes maxL ret nm) {v : Option Value} (hv : ret = none → v = none) (hQ : Q v h S') 
    (sp : ∀ (s' T : State) (locs : List Loc) (k1 n1 : Nat) (fs : List Frame), Stand p l e R s' m args below meth c T locs k1 n1 → (∀ (f : JFrame) (acts : List Action), f.method = m → f.locked = none → f.entered = [] → (doReturn e (T.setTop f) acts v).1 = T.setFrames fs) → Steps p.tables e below (T.setTop (mkF m pc Ls st)) (T.setFrames fs)) (hkR : k ≤ R.cells := by decide) (hnR : n ≤ R.slots := by decide) (hsub : ∀ x ∈ S', x ∈ S := by simp) : Go p l e R s m args below meth c Z EL n0 own Q S h k n pc Ls st := by
  intro T ⟨locs, vm0, k0, k1, n1, q1, q2, X, eT, hS, hk0, hZ, hown, N, O, C, SL⟩
  obtain ⟨fs, hr, hrun, hended, hE⟩ := X.leaveW (v := v) hS (by rw [eT]; exact hk0) (fun z => hv (B.2.2.2.1.symm.trans z)) B.2.2.2.2.2.1
  have A := CHv.at X hZ B.2.2.2.2.2.2.1 C.1
  subst eT
  exact ⟨_, _, sp _ T locs k1 n1 fs X hr, hrun, hended, v, locs, S', rfl, ⟨hQ, N, O, (SL.chr A).sub hsub⟩, C.trans A, hE.1, hE.2.1, hE.2.2.1, hE.2.2.2.mono (by omega) (by omega)⟩
theorem retV (B : Bdy p meth c Z EL a0 bytes maxL ret nm) (hd : decode bytes pc = .ok (.return_, 1)) (hQ : Q none h S') (hkR : k ≤ R.cells := by decide) (hnR : n ≤ R.slots := by decide) (hret : ret = none := by rfl) (hsub : ∀ x ∈ S', x ∈ S := by simp) : Go p l e R s m args below meth c Z EL n0 own Q S h k n pc Ls [] :=
  finish B (fun _ => rfl) hQ (fun s' T locs k1 n1 fs X hr => X.returnOut B.1 (B.2.2.2.1.trans hret) (hb B.2.1 hd) hr) hkR hnR hsub
theorem retA (B : Bdy p meth c Z EL a0 bytes maxL ret nm) {t : FieldType} {w : Value} (hd : decode bytes pc = .ok (.areturn, 1)) (hQ : Q (some w) h S') (hkR : k ≤ R.cells := by decide) (hnR : n ≤ R.slots := by decide) (hret : ret = some t := by rfl) (hsub : ∀ x ∈ S', x ∈ S := by simp) (hw : w.isRef = true := by rfl) (hnn : narrow t w = w := by rfl) (ht : t.isReference = true := by rfl) : Go p l e R s m args below meth c Z EL n0 own Q S h k n pc Ls (w :: rest) :=
  finish B (fun z => by rw [hret] at z; cases z) hQ (fun s' T locs k1 n1 fs X hr => retOut X B.1 (B.2.2.2.1.trans hret) hnn (Or.inr (Or.inr (Or.inr (Or.inr ⟨rfl, ht, hw⟩)))) (hb B.2.1 hd) hr) hkR hnR hsub
theorem retI (B : Bdy p meth c Z EL a0 bytes maxL ret nm) {t : FieldType} {w : Int32} (hd : decode bytes pc = .ok (.ireturn, 1)) (hQ : Q (some (.int w)) h S') (hkR : k ≤ R.cells := by decide) (hnR : n ≤ R.slots := by decide) (hret : ret = some t := by rfl) (hsub : ∀ x ∈ S', x ∈ S := by simp) (hnn : narrow t (.int w) = .int w := by rfl) (ht : t = .int ∨ t = .boolean ∨ t = .byte ∨ t = .char ∨ t = .short := by simp) : Go p l e R s m args below meth c Z EL n0 own Q S h k n pc Ls (.int w :: rest) :=
  finish B (fun z => by rw [hret] at z; cases z) hQ (fun s' T locs k1 n1 fs X hr => retOut X B.1 (B.2.2.2.1.trans hret) hnn (Or.inl ⟨rfl, ht, _, rfl⟩) (hb B.2.1 hd) hr) hkR hnR hsub
theorem acmpR (B : Bdy p meth c Z EL a0 bytes maxL ret nm) {cd : ACond} {x y : Value} {o : Int} {same : Bool} (hd : decode bytes pc = .ok (.if_acmp cd o, 3)) (hq : decide (x = y) = same) (hr : Go p l e R s m args below meth c Z EL n0 own Q S h k n pc' Ls rest) (ho : 0 ≤ (pc : Int) + o := by decide) (hp : pc' = if acV cd same = true then ((pc : Int) + o).toNat else pc + 3 := by decide) (h1 : x.isRef = true := by rfl) (h2 : y.isRef = true := by rfl) : Go p l e R s m args below meth c Z EL n0 own Q S h k n pc Ls (y :: x :: rest) :=
  warm hr fun T vm0 locs k1 n1 X eT hZ hown _ => ⟨T, X, eT, fun t q => acmp X B.1 rfl h1 h2 (g := mkF m pc Ls (y :: x :: rest)) (pc0 := pc) rfl (hb B.2.1 hd) rfl hq ho hp q⟩
def Str (Z : State) (h : Heap) (a t : Addr) (kb : ClassId) (cod z : Int32) (vs : List Value) : Prop := Exa Z h a "java/lang/String" ∧ Fld Z h a "java/lang/String" "coder" "B" (.int cod) ∧ Fld Z h a "java/lang/String" "value" "[B" (.ref t) ∧ Arv Z h t kb .byte z vs (.int 0)
def Rng (cs : List Int32) : Prop := ∀ x ∈ cs, ¬ x < (0 : Int32) ∧ ¬ (65535 : Int32) < x
def Lat (cs : List Int32) : Prop := ∀ x ∈ cs, ¬ (255 : Int32) < x
def Chs (Z : State) (h : Heap) (a t : Addr) (kb : ClassId) (cs : List Int32) : Prop := Exa Z h a "java/lang/String" ∧ Fld Z h a "java/lang/String" "value" "[B" (.ref t) ∧ Rng cs ∧
  ((Fld Z h a "java/lang/String" "coder" "B" (.int 0) ∧ Arv Z h t kb .byte (Int32.ofNat cs.length) (cs.map fun x => .int x.toInt8.toInt32) (.int 0) ∧ Lat cs) ∨
   (Fld Z h a "java/lang/String" "coder" "B" (.int 1) ∧ Arv Z h t kb .byte (Int32.ofNat (2 * cs.length)) (cs.flatMap fun x => [.int x.toInt8.toInt32, .int (x >>> ((8 : Int32) &&& 31)).toInt8.toInt32]) (.int 0) ∧ ∃ x ∈ cs, (255 : Int32) < x))
theorem Chs.keep {a t : Addr} {kb : ClassId} {cs : List Int32} {ws : List Addr} (F : Chs Z h a t kb cs) (K : Keep h h' ws) (qa : a ∉ ws) (qt : t ∉ ws) : Chs Z h' a t kb cs := by
  obtain ⟨E, V, r, ⟨C, A, L⟩ | ⟨C, A, L⟩⟩ := F
  · exact ⟨E.keep K, V.keep K qa, r, Or.inl ⟨C.keep K qa, A.keep K qt, L⟩⟩
  · exact ⟨E.keep K, V.keep K qa, r, Or.inr ⟨C.keep K qa, A.keep K qt, L⟩⟩
theorem Chs.lt {a t : Addr} {kb : ClassId} {cs : List Int32} (F : Chs Z h a t kb cs) : a < h.size := F.1.lt
theorem Chs.ltt {a t : Addr} {kb : ClassId} {cs : List Int32} (F : Chs Z h a t kb cs) : t < h.size := by
  obtain ⟨E, V, r, ⟨C, A, L⟩ | ⟨C, A, L⟩⟩ := F
  · exact A.lt
  · exact A.lt
theorem eq_int_v {args : Array Value} {first s' : State} {o : Option Outcome} {idx : List Nat} {t : Term} {c : Int32} (hq : (Jvm.Cond.eq t (.int c)).value args first o s' idx = some true) : t.eval args first o idx s' = some (.int c) := by
  simp only [Cond.value, Term.int_eval] at hq
  cases ht : t.eval args first o idx s' with
  | none => rw [ht] at hq; simp at hq
  | some v => rw [ht] at hq; cases v <;> simp_all
def Glo (Z : State) (cz : Int32) (sf : Value) : Prop := Sta Z Z.heap "java/lang/String" "COMPACT_STRINGS" "Z" (.int cz) ∧ cz ≠ 0 ∧ Sta Z Z.heap "jdk/internal/util/Preconditions" "SIOOBE_FORMATTER" "Ljava/util/function/BiFunction;" sf ∧ sf.isRef = true
theorem nnAnd (x y : Int32) : (x &&& y).toBitVec.toNat ≤ y.toBitVec.toNat := by
  have : (x &&& y).toBitVec.toNat = x.toBitVec.toNat &&& y.toBitVec.toNat := by simp
  rw [this]; exact Nat.and_le_right
theorem toInt_small {x : Int32} {n : Nat} (h : x.toBitVec.toNat ≤ n) (hn : n < 2147483648) : x.toInt = x.toBitVec.toNat := by
  show x.toBitVec.toInt = _
  rw [BitVec.toInt_eq_toNat_of_lt (by omega)]
/-- x &&& y for y from 0: from 0 to y -/
theorem and_rng (x : Int32) {y : Int32} {n : Nat} (hy : y.toBitVec.toNat = n) (hn : n < 2147483648) : 0 ≤ (x &&& y).toInt ∧ (x &&& y).toInt ≤ n := by
  have h := nnAnd x y
  rw [hy] at h
  have := toInt_small h hn
  omega
theorem rem_rng {x y : Int32} {n : Nat} (hx : 0 ≤ x.toInt) (hy : y.toInt = n) (hn : 0 < n) : 0 ≤ (x % y).toInt ∧ (x % y).toInt < n := by
  rw [Int32.toInt_mod, hy]
  have h1 := Int.tmod_nonneg (n : Int) hx
  have h2 := Int.tmod_lt_of_pos x.toInt (show (0 : Int) < n by omega)
  omega
theorem maxrem5 (x : Int32) : (x &&& 2147483647) % 5 = 0 ∨ (x &&& 2147483647) % 5 = 1 ∨ (x &&& 2147483647) % 5 = 2 ∨ (x &&& 2147483647) % 5 = 3 ∨ (x &&& 2147483647) % 5 = 4 := by
  have k := rem_rng (and_rng x (y := 2147483647) (n := 2147483647) (by decide) (by decide)).1 (y := 5) (n := 5) (by decide) (by decide)
  generalize (x &&& 2147483647) % 5 = z at *
  have k : z.toInt = 0 ∨ z.toInt = 1 ∨ z.toInt = 2 ∨ z.toInt = 3 ∨ z.toInt = 4 := by omega
  exact k.imp Int32.toInt_inj.mp (Or.imp Int32.toInt_inj.mp (Or.imp Int32.toInt_inj.mp (Or.imp Int32.toInt_inj.mp Int32.toInt_inj.mp)))
theorem i2c_idem (x : Int32) : (x.toUInt32.toUInt16.toUInt32.toInt32).toUInt32.toUInt16.toUInt32.toInt32 = x.toUInt32.toUInt16.toUInt32.toInt32 := by
  have h : ∀ u : UInt16, u.toUInt32.toInt32.toUInt32.toUInt16 = u := fun u => by simp
  rw [h]
theorem i2c_rng {x c : Int32} (hc : x.toUInt32.toUInt16.toUInt32.toInt32 = c) : 0 ≤ c.toInt ∧ c.toInt ≤ 65535 := by
  subst hc
  have := x.toUInt32.toUInt16.toNat_lt
  have h : (x.toUInt32.toUInt16.toUInt32.toInt32).toBitVec.toNat ≤ 65535 := by
    show (x.toUInt32.toUInt16.toUInt32).toNat ≤ _
    simp only [UInt16.toNat_toUInt32]
    omega
  have := toInt_small h (by decide)
  omega
theorem cge0 {x c : Int32} (hc : x.toUInt32.toUInt16.toUInt32.toInt32 = c) : ¬ c < (0 : Int32) := by
  have := i2c_rng hc
  rw [Int32.lt_iff_toInt_lt, show (0 : Int32).toInt = 0 from by decide]; omega
theorem cnar {x c : Int32} (hc : x.toUInt32.toUInt16.toUInt32.toInt32 = c) : nar .char c = c := by subst hc; exact i2c_idem x
theorem cnarrow {c : Int32} (hc : nar .char c = c) : narrow .char (.int c) = .int c := congrArg Value.int hc
theorem rng255 {x : Int32} (h0 : ¬ x < (0 : Int32)) (h1 : ¬ (255 : Int32) < x) : 0 ≤ x.toInt ∧ x.toInt ≤ 255 := by
  rw [Int32.lt_iff_toInt_lt, show (0 : Int32).toInt = 0 from by decide] at h0
  rw [Int32.lt_iff_toInt_lt, show (255 : Int32).toInt = 255 from by decide] at h1
  omega
theorem ofRng {x : Int32} {n : Nat} (hn : n < 2147483648) (h : 0 ≤ x.toInt ∧ x.toInt ≤ n) : ∃ k : Nat, k ≤ n ∧ x = Int32.ofNat k := by
  refine ⟨x.toInt.toNat, by omega, Int32.toInt_inj.mp ?_⟩
  rw [Int32.toInt_ofNat_of_lt (by omega)]; omega
theorem all256 (P : Int32 → Bool) (h : (List.range 256).all (fun k => P (Int32.ofNat k)) = true) {x : Int32} (h0 : ¬ x < (0 : Int32)) (h1 : ¬ (255 : Int32) < x) : P x = true := by
  obtain ⟨k, hk, rfl⟩ := ofRng (n := 255) (by decide) (by have := rng255 h0 h1; omega)
  exact List.all_eq_true.mp h k (List.mem_range.mpr (by omega))
theorem b255 {x : Int32} (h0 : ¬ x < (0 : Int32)) (h1 : ¬ (255 : Int32) < x) : x.toInt8.toInt32 &&& 255 = x := by
  have := all256 (fun x => x.toInt8.toInt32 &&& 255 == x) (by decide +kernel) h0 h1
  exact eq_of_beq this
theorem c_id {x : Int32} (h0 : ¬ x < (0 : Int32)) (h1 : ¬ (255 : Int32) < x) : x.toUInt32.toUInt16.toUInt32.toInt32 = x := by
  have := all256 (fun x => x.toUInt32.toUInt16.toUInt32.toInt32 == x) (by decide +kernel) h0 h1
  exact eq_of_beq this
theorem nar_id {x : Int32} (h0 : ¬ x < (0 : Int32)) (h1 : ¬ (255 : Int32) < x) : nar .char x = x := c_id h0 h1
theorem low8 (b : BitVec 8) : (b.signExtend 32 &&& 255#32).toNat = b.toNat := by
  have : ∀ b : BitVec 8, (b.signExtend 32 &&& 255#32).toNat = b.toNat := by decide
  exact this b
theorem lo_nat (x : Int32) : (x.toInt8.toInt32 &&& 255).toBitVec.toNat = x.toBitVec.toNat % 256 := by
  have h := low8 x.toInt8.toBitVec
  have e : (x.toInt8.toInt32 &&& 255).toBitVec = (x.toInt8.toBitVec.signExtend 32 &&& 255#32) := by
    simp
  rw [e, h, Int32.toBitVec_toInt8]
  rw [BitVec.toNat_signExtend]
  simp [BitVec.toNat_setWidth]
theorem shr8 (x : Int32) (h : x.toBitVec.toNat < 65536) : (x >>> ((8 : Int32) &&& 31)).toBitVec.toNat = x.toBitVec.toNat / 256 := by
  have e : (x >>> ((8 : Int32) &&& 31)).toBitVec = x.toBitVec.sshiftRight 8 := by
    have : ((8 : Int32) &&& 31) = 8 := by decide
    rw [this, Int32.toBitVec_shiftRight]
    rfl
  rw [e, BitVec.sshiftRight_eq_of_msb_false (by rw [BitVec.msb_eq_false_iff_two_mul_lt]; omega)]
  rw [BitVec.toNat_ushiftRight]
  rw [Nat.shiftRight_eq_div_pow]
theorem shl8 (x : Int32) : (x <<< ((8 : Int32) &&& 31)).toBitVec.toNat = (x.toBitVec.toNat * 256) % 4294967296 := by
  have e : (x <<< ((8 : Int32) &&& 31)).toBitVec = x.toBitVec <<< 8 := by
    have : ((8 : Int32) &&& 31) = 8 := by decide
    rw [this, Int32.toBitVec_shiftLeft]
    rfl
  rw [e, BitVec.toNat_shiftLeft, Nat.shiftLeft_eq]
theorem shl0 (x : Int32) : x <<< ((0 : Int32) &&& 31) = x := by
  apply Int32.toBitVec_inj.mp
  simp
theorem toNat_rng {x : Int32} {n : Nat} (h0 : 0 ≤ x.toInt) (h1 : x.toInt ≤ n) (hn : n < 2147483648) : x.toBitVec.toNat ≤ n := by
  have e : x.toInt = x.toBitVec.toInt := rfl
  rw [e] at h0 h1
  have hlt := x.toBitVec.isLt
  rw [BitVec.toInt_eq_toNat_cond] at h0 h1
  split at h0 <;> omega
theorem rng65535 {x : Int32} (h0 : ¬ x < (0 : Int32)) (h1 : ¬ (65535 : Int32) < x) : x.toBitVec.toNat ≤ 65535 := by
  rw [Int32.lt_iff_toInt_lt, show (0 : Int32).toInt = 0 from by decide] at h0
  rw [Int32.lt_iff_toInt_lt, show (65535 : Int32).toInt = 65535 from by decide] at h1
  exact toNat_rng (by omega) (by omega) (by decide)
theorem c_id16 {x : Int32} (h0 : ¬ x < (0 : Int32)) (h1 : ¬ (65535 : Int32) < x) : x.toUInt32.toUInt16.toUInt32.toInt32 = x := by
  have h := rng65535 h0 h1
  apply Int32.toBitVec_inj.mp
  apply BitVec.eq_of_toNat_eq
  show (x.toUInt32.toUInt16.toUInt32).toNat = x.toUInt32.toNat
  rw [UInt16.toNat_toUInt32, UInt32.toNat_toUInt16]
  have : x.toUInt32.toNat = x.toBitVec.toNat := rfl
  omega
theorem u16 {x : Int32} (h0 : ¬ x < (0 : Int32)) (h1 : ¬ (65535 : Int32) < x) : ((x.toInt8.toInt32 &&& 255) <<< ((0 : Int32) &&& 31)) ||| (((x >>> ((8 : Int32) &&& 31)).toInt8.toInt32 &&& 255) <<< ((8 : Int32) &&& 31)) = x := by
  have h := rng65535 h0 h1
  rw [shl0]
  apply Int32.toBitVec_inj.mp
  apply BitVec.eq_of_toNat_eq
  rw [Int32.toBitVec_or, BitVec.toNat_or, lo_nat, shl8, lo_nat, shr8 x (by omega)]
  generalize x.toBitVec.toNat = n at *
  have e1 : n / 256 % 256 * 256 % 4294967296 = (n / 256) <<< 8 := by rw [Nat.shiftLeft_eq]; omega
  rw [e1, Nat.or_comm, ← Nat.shiftLeft_add_eq_or_of_lt (by omega : n % 256 < 2 ^ 8), Nat.shiftLeft_eq]
  omega
theorem shr0 (x : Int32) : x >>> ((0 : Int32) &&& 31) = x := by
  apply Int32.toBitVec_inj.mp
  simp
theorem nar_id16 {x : Int32} (h0 : ¬ x < (0 : Int32)) (h1 : ¬ (65535 : Int32) < x) : nar .char x = x := c_id16 h0 h1
theorem cle16 {x c : Int32} (hc : x.toUInt32.toUInt16.toUInt32.toInt32 = c) : ¬ (65535 : Int32) < c := by
  have := i2c_rng hc
  rw [Int32.lt_iff_toInt_lt, show (65535 : Int32).toInt = 65535 from by decide]; omega
theorem nar_b (x : Int32) : nar .byte x.toInt8.toInt32 = x.toInt8.toInt32 := by simp [nar]
theorem Go.loop {α : Type} {pc1 : Nat} (I : Nat → α → Heap → Prop) (F : α → Array Slot) (hs : ∀ i x h, I i x h → (∀ j y h', j < i → I j y h' → Go p l e R s m args below meth c Z EL n0 own Q S h' k n pc1 (F y) []) → Go p l e R s m args below meth c Z EL n0 own Q S h k n pc1 (F x) []) (i : Nat) (x : α) (h0 : I i x h) : Go p l e R s m args below meth c Z EL n0 own Q S h k n pc1 (F x) [] := by
  have H : ∀ t i x h, i < t → I i x h → Go p l e R s m args below meth c Z EL n0 own Q S h k n pc1 (F x) [] := by
    intro t
    induction t with
    | zero => intro i x h q; exact absurd q (Nat.not_lt_zero _)
    | succ t ih => intro i x h q r; exact hs i x h r fun j y h' q' r' => ih j y h' (by omega) r'
  exact H (i + 1) i x h (Nat.lt_succ_self _) h0
def UI (u : Slot) : Prop := u = .unset ∨ ∃ y : Int32, u = .val (.int y)
theorem nI {i : Nat} (hi : i < 2147483648) : (Int32.ofNat i).toInt = i := Int32.toInt_ofNat_of_lt hi
theorem nlt {i n : Nat} (hi : i < 2147483648) (hn : n < 2147483648) : (Int32.ofNat i < Int32.ofNat n) ↔ i < n := by
  rw [Int32.lt_iff_toInt_lt, nI hi, nI hn]; omega
theorem nlT {i n : Nat} (h : i < n) (hn : n ≤ 128 := by omega) : Int32.ofNat i < Int32.ofNat n := (nlt (by omega) (by omega)).mpr h
theorem nlF {i n : Nat} (h : ¬ i < n) (hi : i ≤ 128 := by omega) : ¬ Int32.ofNat i < Int32.ofNat n := fun q => h ((nlt (by omega) (by omega)).mp q)
theorem nc {i : Nat} (hi : i ≤ 128 := by omega) : (Int32.ofNat i).toNatClampNeg = i := by
  simp only [Int32.toNatClampNeg, nI (i := i) (by omega)]; omega
theorem nn {i : Nat} (hi : i ≤ 128 := by omega) : ¬ Int32.ofNat i < 0 := by
  rw [Int32.lt_iff_toInt_lt, nI (by omega)]; simp
theorem nS (i : Nat) : Int32.ofNat i + 1 = Int32.ofNat (i + 1) := by
  rw [Int32.ofNat_add]; rfl
theorem nE {i n : Nat} (hi : i ≤ 128 := by omega) (hn : n ≤ 128 := by omega) (h : i ≠ n := by omega) : ¬ Int32.ofNat i = Int32.ofNat n := fun q => by
  have := congrArg Int32.toInt q
  rw [nI (by omega), nI (by omega)] at this; omega
theorem nsub {i n : Nat} (h : i ≤ n) : Int32.ofNat n - Int32.ofNat i = Int32.ofNat (n - i) := by
  have : Int32.ofNat n = Int32.ofNat (n - i) + Int32.ofNat i := by rw [← Int32.ofNat_add]; congr 1; omega
  rw [this]; simp
theorem nD' : ∀ i < 65, Int32.ofNat i <<< ((1 : Int32) &&& 31) = Int32.ofNat (2 * i) := by decide +kernel
theorem nH' : ∀ i < 65, Int32.ofNat (2 * i) >>> ((1 : Int32) &&& 31) = Int32.ofNat i := by decide +kernel
theorem nD {i : Nat} (h : i ≤ 64 := by omega) : Int32.ofNat i <<< ((1 : Int32) &&& 31) = Int32.ofNat (2 * i) := nD' i (by omega)
theorem nH {i : Nat} (h : i ≤ 64 := by omega) : Int32.ofNat (2 * i) >>> ((1 : Int32) &&& 31) = Int32.ofNat i := nH' i (by omega)
theorem tk {α : Type} {l : List α} {i : Nat} {b z : α} (h : l[i]? = some b) : (l.take i ++ [z]).set i b = l.take (i + 1) := by
  obtain ⟨hi, rfl⟩ := List.getElem?_eq_some_iff.mp h
  rw [List.take_add_one, h]
  simp [Nat.min_eq_left (Nat.le_of_lt hi)]
theorem pad1 {α : Type} (l : List α) (dv : α) : ∀ i, (l ++ [dv]).getD i dv = l.getD i dv := fun i => by
  simp only [List.getD_eq_getElem?_getD]
  by_cases q : i < l.length
  · rw [List.getElem?_append_left q]
  · rw [List.getElem?_append_right (Nat.le_of_not_lt q), List.getElem?_eq_none (Nat.le_of_not_lt q)]
    cases i - l.length <;> simp
theorem gD {α : Type} {l : List α} {i : Nat} {b dv : α} (h : l[i]? = some b) : l.getD i dv = b := by rw [List.getD_eq_getElem?_getD, h]; rfl
abbrev CA (cs : List Int32) : List Value := cs.map Value.int
abbrev LB (cs : List Int32) : List Value := cs.map fun x => .int x.toInt8.toInt32
abbrev UB (cs : List Int32) : List Value := cs.flatMap fun x => [.int x.toInt8.toInt32, .int (x >>> ((8 : Int32) &&& 31)).toInt8.toInt32]
theorem UBl {α β : Type} (f g : α → β) (cs : List α) : (cs.flatMap fun x => [f x, g x]).length = 2 * cs.length := by
  induction cs with
  | nil => rfl
  | cons x r ih => simp only [List.flatMap_cons, List.length_append, List.length_cons, List.length_nil, ih]; omega
theorem UBa {α β : Type} (f g : α → β) : ∀ (cs : List α) (j : Nat) {x : α}, cs[j]? = some x → (cs.flatMap fun x => [f x, g x])[2 * j]? = some (f x) ∧ (cs.flatMap fun x => [f x, g x])[2 * j + 1]? = some (g x)
  | [], _, _, h => by simp at h
  | y :: r, 0, x, h => by simp at h; subst h; simp
  | y :: r, j + 1, x, h => by
    have := UBa f g r j (x := x) (by simpa using h)
    have e : 2 * (j + 1) = 2 * j + 2 := by omega
    rw [e]
    simpa [List.flatMap_cons, Nat.add_right_comm] using this
theorem CAa {cs : List Int32} {j : Nat} {x : Int32} (h : cs[j]? = some x) : (CA cs)[j]? = some (.int x) := by simp [CA, h]
theorem LBa {cs : List Int32} {j : Nat} {x : Int32} (h : cs[j]? = some x) : (LB cs)[j]? = some (.int x.toInt8.toInt32) := by simp [LB, h]
theorem take1 {cs : List Int32} {j : Nat} {x : Int32} {P : Int32 → Prop} (h : cs[j]? = some x) (a : ∀ y ∈ cs.take j, P y) (b : P x) : ∀ y ∈ cs.take (j + 1), P y := by
  intro y hy
  rw [List.take_add_one, h] at hy
  rcases List.mem_append.mp hy with q | q
  · exact a y q
  · simp at q; exact q ▸ b
theorem takeN {α : Type} {l : List α} {n : Nat} (h : l.length ≤ n) : l.take n = l := List.take_of_length_le h
theorem nBig {i : Nat} (h : i ≤ 64 := by omega) : Int32.ofNat i < 1073741823 := by
  rw [Int32.lt_iff_toInt_lt, nI (by omega)]; show (i : Int) < 1073741823; omega
theorem cal0' : ∀ i < 65, Jvm.Free.XT.ushr (Int32.ofNat i - Int32.ofNat i) 31 = 0 := by decide +kernel
theorem cal1' : ∀ i < 65, 0 < i → Jvm.Free.XT.ushr (Int32.ofNat i - Int32.ofNat (2 * i)) 31 = 1 := by decide +kernel
theorem cal0 {i : Nat} (h : i ≤ 64 := by omega) : Jvm.Free.XT.ushr (Int32.ofNat i - Int32.ofNat i) 31 = 0 := cal0' i (by omega)
theorem cal1 {i : Nat} (h0 : 0 < i) (h : i ≤ 64 := by omega) : Jvm.Free.XT.ushr (Int32.ofNat i - Int32.ofNat (2 * i)) 31 = 1 := cal1' i (by omega) h0
theorem UBt {cs : List Int32} {j : Nat} {x : Int32} {u v : Value} (h : cs[j]? = some x) : ((((UB cs).take (2 * j) ++ [u]).set (2 * j) (.int x.toInt8.toInt32)) ++ [v]).set (2 * j + 1) (.int (x >>> ((8 : Int32) &&& 31)).toInt8.toInt32) = (UB cs).take (2 * (j + 1)) := by
  have q := UBa (fun x : Int32 => Value.int x.toInt8.toInt32) (fun x : Int32 => Value.int (x >>> ((8 : Int32) &&& 31)).toInt8.toInt32) cs j h
  rw [tk q.1, tk q.2]; rfl
theorem UBn (cs : List Int32) : (UB cs).length = 2 * cs.length := UBl _ _ cs
theorem nil0 {cs : List Int32} (h : Int32.ofNat cs.length = 0) (hN : cs.length ≤ 64) : cs = [] := by
  have := congrArg Int32.toInt h
  rw [nI (by omega)] at this
  exact List.eq_nil_of_length_eq_zero (by have e : (0 : Int32).toInt = 0 := rfl; omega)
theorem pos0 {cs : List Int32} (h : ¬ Int32.ofNat cs.length = 0) : 0 < cs.length := by
  rcases Nat.eq_zero_or_pos cs.length with q | q
  · exact absurd (by rw [q]; rfl) h
  · exact q
theorem Chs.nil {a t : Addr} {kb : ClassId} (E : Exa Z h a "java/lang/String") (V : Fld Z h a "java/lang/String" "value" "[B" (.ref t)) (C : Fld Z h a "java/lang/String" "coder" "B" (.int 0)) (A : Arv Z h t kb .byte 0 [] (.int 0)) : Chs Z h a t kb [] := ⟨E, V, fun _ q => (nomatch q), Or.inl ⟨C, A, fun _ q => (nomatch q)⟩⟩
theorem cpy {α : Type} {vs : List α} {dv : α} {i n : Nat} (h : i + n ≤ vs.length) : ((List.replicate n dv).take 0 ++ ((List.range n).map fun k => vs.getD (i + k) dv) ++ (List.replicate n dv).drop (0 + n)) = (vs.drop i).take n := by
  apply List.ext_getElem?
  intro k
  simp only [List.take_zero, List.nil_append, Nat.zero_add, List.drop_replicate, Nat.sub_self, List.replicate_zero, List.append_nil, List.getElem?_map, List.getElem?_take, List.getElem?_drop]
  by_cases q : k < n
  · rw [if_pos q, List.getElem?_range q]
    simp [List.getD_eq_getElem?_getD, List.getElem?_eq_getElem (show i + k < vs.length by omega)]
  · rw [if_neg q, List.getElem?_eq_none (by simp; omega)]; rfl
theorem UBd {α β : Type} (f g : α → β) : ∀ (cs : List α) (i : Nat), (cs.flatMap fun x => [f x, g x]).drop (2 * i) = (cs.drop i).flatMap fun x => [f x, g x]
  | [], _ => by simp
  | _ :: _, 0 => by simp
  | y :: r, i + 1 => by
    have := UBd f g r i
    have e : 2 * (i + 1) = 2 * i + 2 := by omega
    rw [e]; simpa [List.flatMap_cons] using this
theorem UBt' {α β : Type} (f g : α → β) : ∀ (cs : List α) (i : Nat), (cs.flatMap fun x => [f x, g x]).take (2 * i) = (cs.take i).flatMap fun x => [f x, g x]
  | [], _ => by simp
  | _ :: _, 0 => by simp
  | y :: r, i + 1 => by
    have := UBt' f g r i
    have e : 2 * (i + 1) = 2 * i + 2 := by omega
    rw [e]; simpa [List.flatMap_cons] using this
theorem orNN {x y : Int32} (hx : ¬ x < 0) (hy : ¬ y < 0) : ¬ (x ||| y) < 0 := by
  have k : ∀ z : Int32, z < 0 ↔ z.toBitVec.msb = true := fun z => by
    rw [Int32.lt_iff_toInt_lt, BitVec.msb_eq_toInt]; simp
  rw [k] at *
  simp_all
theorem nz {i : Nat} (h : Int32.ofNat i = 0) (hi : i ≤ 128) : i = 0 := by
  have := congrArg Int32.toInt h
  rw [nI (by omega)] at this
  have e : (0 : Int32).toInt = 0 := rfl
  omega
abbrev sl {α : Type} (cs : List α) (i n : Nat) : List α := (cs.drop i).take n
theorem sl_len {α : Type} {cs : List α} {i n : Nat} (h : i + n ≤ cs.length) : (sl cs i n).length = n := by simp; omega
theorem sl_mem {α : Type} {cs : List α} {i n : Nat} {x : α} (h : x ∈ sl cs i n) : x ∈ cs := List.mem_of_mem_drop (List.mem_of_mem_take h)
theorem sl_at {α : Type} {cs : List α} {i n j : Nat} {x : α} (h : (sl cs i n)[j]? = some x) : j < n ∧ cs[i + j]? = some x := by
  simp only [sl, List.getElem?_take, List.getElem?_drop] at h
  split at h
  · exact ⟨‹_›, h⟩
  · cases h
theorem nadd (i n : Nat) : Int32.ofNat i + Int32.ofNat n = Int32.ofNat (i + n) := (Int32.ofNat_add i n).symm
theorem Arv.slL {r i n : Nat} {k : ClassId} {cs : List Int32} (A : Arv Z h r k .byte (Int32.ofNat (i + n - i)) (((LB cs).drop i).take (i + n - i)) (.int 0)) (q : i + n ≤ cs.length) : Arv Z h r k .byte (Int32.ofNat (sl cs i n).length) (LB (sl cs i n)) (.int 0) := by
  rw [show i + n - i = n from by omega] at A
  rw [sl_len q]
  have e : LB (sl cs i n) = ((LB cs).drop i).take n := by simp [LB, sl, List.map_drop, List.map_take]
  rw [e]; exact A
theorem Arv.slU {r i n : Nat} {k : ClassId} {cs : List Int32} (A : Arv Z h r k .byte (Int32.ofNat (2 * (i + n) - 2 * i)) (((UB cs).drop (2 * i)).take (2 * (i + n) - 2 * i)) (.int 0)) (q : i + n ≤ cs.length) : Arv Z h r k .byte (Int32.ofNat (2 * (sl cs i n).length)) (UB (sl cs i n)) (.int 0) := by
  rw [show 2 * (i + n) - 2 * i = 2 * n from by omega] at A
  rw [sl_len q]
  have e : UB (sl cs i n) = ((UB cs).drop (2 * i)).take (2 * n) := by rw [UB, UBd, UBt']
  rw [e]; exact A
theorem nEq {i n : Nat} (h : Int32.ofNat i = Int32.ofNat n) (hi : i ≤ 128 := by omega) (hn : n ≤ 128 := by omega) : i = n := by
  have := congrArg Int32.toInt h
  rw [nI (by omega), nI (by omega)] at this
  omega
theorem Rng.app {cs ds : List Int32} (a : Rng cs) (b : Rng ds) : Rng (cs ++ ds) := fun y q => (List.mem_append.mp q).elim (a y) (b y)
theorem Lat.app {cs ds : List Int32} (a : Lat cs) (b : Lat ds) : Lat (cs ++ ds) := fun y q => (List.mem_append.mp q).elim (a y) (b y)
end Rules
end Jvm.Ow
namespace Jvm.Pilot.@@N@@
open Jvm Jvm.ClassFile Sem Op Lib Jvm.Free Jvm.Stand Jvm.LawKit Jvm.RoadKit Bundle Jvm.Pilot.@@N@@.Jvm.D
abbrev EL1 : List (String × Nat) := [("java/lang/String", 7), ("java/lang/StringLatin1", 151), ("com/example/elsewhere/elsewhere/Field$Subfield", 38)]
abbrev Hw (a0 : Array Value) (Z : State) : Prop := ∀ d ∈ tables_1, d.before a0 Z = true
abbrev my0 : MethodName := { cls := "java/lang/StringUTF16", name := "compress", desc := "([CI[BII)I" }
abbrev my1 : MethodName := { cls := "java/lang/StringUTF16", name := "newBytesLength", desc := "(I)I" }
abbrev my2 : MethodName := { cls := "java/lang/StringUTF16", name := "newBytesFor", desc := "(I)[B" }
abbrev my3 : MethodName := { cls := "java/lang/StringUTF16", name := "putChar", desc := "([BII)V" }
abbrev my4 : MethodName := { cls := "java/lang/StringUTF16", name := "getChar", desc := "([BI)C" }
abbrev my5 : MethodName := { cls := "java/lang/StringUTF16", name := "toBytes", desc := "([CII)[B" }
abbrev my6 : MethodName := { cls := "java/lang/StringUTF16", name := "compress", desc := "([CII)[B" }
abbrev my7 : MethodName := { cls := "java/lang/StringUTF16", name := "coderFromArrayLen", desc := "([BI)B" }
abbrev my8 : MethodName := { cls := "java/lang/String", name := "<init>", desc := "([CIILjava/lang/Void;)V" }
abbrev my9 : MethodName := { cls := "java/lang/String", name := "<init>", desc := "([C)V" }
abbrev my10 : MethodName := { cls := "java/lang/String", name := "coder", desc := "()B" }
abbrev my11 : MethodName := { cls := "java/lang/String", name := "length", desc := "()I" }
abbrev my12 : MethodName := { cls := "jdk/internal/util/Preconditions", name := "checkIndex", desc := "(IILjava/util/function/BiFunction;)I" }
abbrev my13 : MethodName := { cls := "java/lang/String", name := "checkIndex", desc := "(II)V" }
abbrev my14 : MethodName := { cls := "java/lang/StringLatin1", name := "charAt", desc := "([BI)C" }
abbrev my15 : MethodName := { cls := "java/lang/StringUTF16", name := "length", desc := "([B)I" }
abbrev my16 : MethodName := { cls := "java/lang/StringUTF16", name := "checkIndex", desc := "(I[B)V" }
abbrev my17 : MethodName := { cls := "java/lang/StringUTF16", name := "charAt", desc := "([BI)C" }
abbrev my18 : MethodName := { cls := "java/lang/String", name := "isLatin1", desc := "()Z" }
abbrev my19 : MethodName := { cls := "java/lang/String", name := "charAt", desc := "(I)C" }
abbrev my20 : MethodName := { cls := "java/lang/Math", name := "min", desc := "(II)I" }
abbrev my21 : MethodName := { cls := "java/util/Arrays", name := "checkLength", desc := "(II)V" }
abbrev my22 : MethodName := { cls := "java/util/Arrays", name := "copyOfRangeByte", desc := "([BII)[B" }
abbrev my23 : MethodName := { cls := "java/util/Arrays", name := "copyOfRange", desc := "([BII)[B" }
abbrev my24 : MethodName := { cls := "java/lang/String", name := "<init>", desc := "([BB)V" }
abbrev my25 : MethodName := { cls := "java/lang/StringLatin1", name := "newString", desc := "([BII)Ljava/lang/String;" }
abbrev my26 : MethodName := { cls := "jdk/internal/util/Preconditions", name := "checkFromIndexSize", desc := "(IIILjava/util/function/BiFunction;)I" }
abbrev my27 : MethodName := { cls := "java/lang/String", name := "checkBoundsOffCount", desc := "(III)I" }
abbrev my28 : MethodName := { cls := "java/lang/StringUTF16", name := "checkBoundsOffCount", desc := "(II[B)V" }
abbrev my29 : MethodName := { cls := "java/lang/StringUTF16", name := "compress", desc := "([BI[BII)I" }
abbrev my30 : MethodName := { cls := "java/lang/StringUTF16", name := "compress", desc := "([BII)[B" }
abbrev my31 : MethodName := { cls := "java/lang/StringUTF16", name := "newString", desc := "([BII)Ljava/lang/String;" }
abbrev my32 : MethodName := { cls := "jdk/internal/util/Preconditions", name := "checkFromToIndex", desc := "(IIILjava/util/function/BiFunction;)I" }
abbrev my33 : MethodName := { cls := "java/lang/String", name := "checkBoundsBeginEnd", desc := "(III)V" }
abbrev my34 : MethodName := { cls := "java/lang/String", name := "substring", desc := "(II)Ljava/lang/String;" }
abbrev my35 : MethodName := { cls := "com/example/elsewhere/elsewhere/SubfieldWithoutSeparatorPinLaw", name := "sel", desc := "(I)C" }
abbrev my36 : MethodName := { cls := "com/example/elsewhere/elsewhere/SubfieldWithoutSeparatorPinLaw", name := "str", desc := "(I[C)Ljava/lang/String;" }
abbrev my37 : MethodName := { cls := "java/lang/Record", name := "<init>", desc := "()V" }
abbrev my38 : MethodName := { cls := "com/example/elsewhere/elsewhere/Field$Subfield", name := "<init>", desc := "(ILjava/lang/String;)V" }
abbrev my39 : MethodName := { cls := "com/example/elsewhere/elsewhere/Field$Subfield", name := "endBeforeSpaces", desc := "(II)I" }
abbrev my40 : MethodName := { cls := "com/example/elsewhere/elsewhere/Field$Subfield", name := "endBeforeSeparator", desc := "(II)I" }
abbrev my41 : MethodName := { cls := "com/example/elsewhere/elsewhere/Field$Subfield", name := "withoutSeparator", desc := "()Ljava/lang/String;" }
abbrev my42 : MethodName := { cls := "com/example/elsewhere/elsewhere/SubfieldWithoutSeparatorPinLaw", name := "strip", desc := "([CI)I" }
abbrev my43 : MethodName := { cls := "java/lang/String", name := "equals", desc := "(Ljava/lang/Object;)Z" }
abbrev my44 : MethodName := { cls := "java/lang/StringLatin1", name := "canEncode", desc := "(I)Z" }
abbrev my45 : MethodName := { cls := "java/lang/Math", name := "max", desc := "(II)I" }
abbrev my46 : MethodName := { cls := "java/lang/StringLatin1", name := "indexOfChar", desc := "([BIII)I" }
abbrev my47 : MethodName := { cls := "java/lang/StringLatin1", name := "indexOf", desc := "([BIII)I" }
abbrev my48 : MethodName := { cls := "java/lang/String", name := "indexOf", desc := "(II)I" }
abbrev my49 : MethodName := { cls := "java/lang/String", name := "indexOf", desc := "(I)I" }
abbrev my50 : MethodName := { cls := "com/example/elsewhere/elsewhere/SubfieldWithoutSeparatorPinLaw", name := "prefixEq", desc := "(Ljava/lang/String;[CI)Z" }
theorem w0 {a0 : Array Value} {Z : State} (hw : Hw a0 Z) : (Jvm.Cond.constant "com/example/elsewhere/elsewhere/SubfieldWithoutSeparatorPinLaw" (17 : Nat) (2147483647 : Int32)).before a0 Z = true := hw _ (List.mem_of_getElem? (i := 0) rfl)
theorem w1 {a0 : Array Value} {Z : State} (hw : Hw a0 Z) : (Jvm.Cond.arrayClass Jvm.ClassFile.FieldType.char).before a0 Z = true := hw _ (List.mem_of_getElem? (i := 1) rfl)
theorem w2 {a0 : Array Value} {Z : State} (hw : Hw a0 Z) : (Jvm.Cond.methodLink "com/example/elsewhere/elsewhere/SubfieldWithoutSeparatorPinLaw" (18 : Nat) ({ cls := "com/example/elsewhere/elsewhere/SubfieldWithoutSeparatorPinLaw", name := "sel", desc := "(I)C" } : Jvm.MethodName)).before a0 Z = true := hw _ (List.mem_of_getElem? (i := 2) rfl)
theorem w3 {a0 : Array Value} {Z : State} (hw : Hw a0 Z) : (Jvm.Cond.static ({ cls := "com/example/elsewhere/elsewhere/SubfieldWithoutSeparatorPinLaw", name := "sel", desc := "(I)C" } : Jvm.MethodName)).before a0 Z = true := hw _ (List.mem_of_getElem? (i := 3) rfl)
theorem w4 {a0 : Array Value} {Z : State} (hw : Hw a0 Z) : (Jvm.Cond.initialized "com/example/elsewhere/elsewhere/SubfieldWithoutSeparatorPinLaw").before a0 Z = true := hw _ (List.mem_of_getElem? (i := 4) rfl)
theorem w5 {a0 : Array Value} {Z : State} (hw : Hw a0 Z) : (Jvm.Cond.code ({ cls := "com/example/elsewhere/elsewhere/SubfieldWithoutSeparatorPinLaw", name := "sel", desc := "(I)C" } : Jvm.MethodName) method_2_code (2 : Nat) (Option.some Jvm.ClassFile.FieldType.char)).before a0 Z = true := hw _ (List.mem_of_getElem? (i := 5) rfl)
theorem w6 {a0 : Array Value} {Z : State} (hw : Hw a0 Z) : (Jvm.Cond.methodLink "com/example/elsewhere/elsewhere/SubfieldWithoutSeparatorPinLaw" (23 : Nat) ({ cls := "com/example/elsewhere/elsewhere/SubfieldWithoutSeparatorPinLaw", name := "str", desc := "(I[C)Ljava/lang/String;" } : Jvm.MethodName)).before a0 Z = true := hw _ (List.mem_of_getElem? (i := 6) rfl)
theorem w7 {a0 : Array Value} {Z : State} (hw : Hw a0 Z) : (Jvm.Cond.static ({ cls := "com/example/elsewhere/elsewhere/SubfieldWithoutSeparatorPinLaw", name := "str", desc := "(I[C)Ljava/lang/String;" } : Jvm.MethodName)).before a0 Z = true := hw _ (List.mem_of_getElem? (i := 7) rfl)
theorem w8 {a0 : Array Value} {Z : State} (hw : Hw a0 Z) : (Jvm.Cond.code ({ cls := "com/example/elsewhere/elsewhere/SubfieldWithoutSeparatorPinLaw", name := "str", desc := "(I[C)Ljava/lang/String;" } : Jvm.MethodName) method_3_code (2 : Nat) (Option.some (Jvm.ClassFile.FieldType.object "java/lang/String"))).before a0 Z = true := hw _ (List.mem_of_getElem? (i := 8) rfl)
theorem w9 {a0 : Array Value} {Z : State} (hw : Hw a0 Z) : (Jvm.Cond.classLink "com/example/elsewhere/elsewhere/SubfieldWithoutSeparatorPinLaw" (8 : Nat) "java/lang/String").before a0 Z = true := hw _ (List.mem_of_getElem? (i := 9) rfl)
theorem w10 {a0 : Array Value} {Z : State} (hw : Hw a0 Z) : (Jvm.Cond.instantiable "java/lang/String" (4 : Nat)).before a0 Z = true := hw _ (List.mem_of_getElem? (i := 10) rfl)
theorem w11 {a0 : Array Value} {Z : State} (hw : Hw a0 Z) : (Jvm.Cond.initialized "java/lang/String").before a0 Z = true := hw _ (List.mem_of_getElem? (i := 11) rfl)
theorem w12 {a0 : Array Value} {Z : State} (hw : Hw a0 Z) : (Jvm.Cond.methodLink "com/example/elsewhere/elsewhere/SubfieldWithoutSeparatorPinLaw" (10 : Nat) ({ cls := "java/lang/String", name := "<init>", desc := "([C)V" } : Jvm.MethodName)).before a0 Z = true := hw _ (List.mem_of_getElem? (i := 12) rfl)
theorem w13 {a0 : Array Value} {Z : State} (hw : Hw a0 Z) : (Jvm.Cond.instanceMethod ({ cls := "java/lang/String", name := "<init>", desc := "([C)V" } : Jvm.MethodName)).before a0 Z = true := hw _ (List.mem_of_getElem? (i := 13) rfl)
theorem w14 {a0 : Array Value} {Z : State} (hw : Hw a0 Z) : (Jvm.Cond.code ({ cls := "java/lang/String", name := "<init>", desc := "([C)V" } : Jvm.MethodName) jdk_42_method_3_code (2 : Nat) (Option.none : Option Jvm.ClassFile.FieldType)).before a0 Z = true := hw _ (List.mem_of_getElem? (i := 14) rfl)
theorem w15 {a0 : Array Value} {Z : State} (hw : Hw a0 Z) : (Jvm.Cond.methodLink "java/lang/String" (27 : Nat) ({ cls := "java/lang/String", name := "<init>", desc := "([CIILjava/lang/Void;)V" } : Jvm.MethodName)).before a0 Z = true := hw _ (List.mem_of_getElem? (i := 15) rfl)
theorem w16 {a0 : Array Value} {Z : State} (hw : Hw a0 Z) : (Jvm.Cond.instanceMethod ({ cls := "java/lang/String", name := "<init>", desc := "([CIILjava/lang/Void;)V" } : Jvm.MethodName)).before a0 Z = true := hw _ (List.mem_of_getElem? (i := 16) rfl)
theorem w18 {a0 : Array Value} {Z : State} (hw : Hw a0 Z) : (Jvm.Cond.code ({ cls := "java/lang/String", name := "<init>", desc := "([CIILjava/lang/Void;)V" } : Jvm.MethodName) jdk_42_method_149_code (6 : Nat) (Option.none : Option Jvm.ClassFile.FieldType)).before a0 Z = true := hw _ (List.mem_of_getElem? (i := 18) rfl)
theorem w19 {a0 : Array Value} {Z : State} (hw : Hw a0 Z) : (Jvm.Cond.methodLink "java/lang/String" (1 : Nat) ({ cls := "java/lang/Object", name := "<init>", desc := "()V" } : Jvm.MethodName)).before a0 Z = true := hw _ (List.mem_of_getElem? (i := 19) rfl)
theorem w20 {a0 : Array Value} {Z : State} (hw : Hw a0 Z) : (Jvm.Cond.instanceMethod ({ cls := "java/lang/Object", name := "<init>", desc := "()V" } : Jvm.MethodName)).before a0 Z = true := hw _ (List.mem_of_getElem? (i := 20) rfl)
theorem w21 {a0 : Array Value} {Z : State} (hw : Hw a0 Z) : (Jvm.Cond.code ({ cls := "java/lang/Object", name := "<init>", desc := "()V" } : Jvm.MethodName) object_method_1_code (1 : Nat) (Option.none : Option Jvm.ClassFile.FieldType)).before a0 Z = true := hw _ (List.mem_of_getElem? (i := 21) rfl)
theorem w22 {a0 : Array Value} {Z : State} (hw : Hw a0 Z) : (Jvm.Cond.stringLink "java/lang/String" (7 : Nat) "").before a0 Z = true := hw _ (List.mem_of_getElem? (i := 22) rfl)
theorem w23 {a0 : Array Value} {Z : State} (hw : Hw a0 Z) : (Jvm.Cond.arrayClass Jvm.ClassFile.FieldType.byte).before a0 Z = true := hw _ (List.mem_of_getElem? (i := 23) rfl)
theorem w24 {a0 : Array Value} {Z : State} (hw : Hw a0 Z) : (Jvm.Cond.laysFinal "java/lang/String" "java/lang/String" "value" "[B").before a0 Z = true := hw _ (List.mem_of_getElem? (i := 24) rfl)
theorem w25 {a0 : Array Value} {Z : State} (hw : Hw a0 Z) : (Jvm.Cond.laysFinal "java/lang/String" "java/lang/String" "coder" "B").before a0 Z = true := hw _ (List.mem_of_getElem? (i := 25) rfl)
theorem w26 {a0 : Array Value} {Z : State} (hw : Hw a0 Z) : (Jvm.Cond.soleField "java/lang/String" "value").before a0 Z = true := hw _ (List.mem_of_getElem? (i := 26) rfl)
theorem w27 {a0 : Array Value} {Z : State} (hw : Hw a0 Z) : (Jvm.Cond.soleField "java/lang/String" "coder").before a0 Z = true := hw _ (List.mem_of_getElem? (i := 27) rfl)
theorem w28 {a0 : Array Value} {Z : State} (hw : Hw a0 Z) : (Jvm.Cond.fieldLink "java/lang/String" (9 : Nat) "java/lang/String" "value" "[B").before a0 Z = true := hw _ (List.mem_of_getElem? (i := 28) rfl)
theorem w29 {a0 : Array Value} {Z : State} (hw : Hw a0 Z) : (Jvm.Cond.fieldLink "java/lang/String" (15 : Nat) "java/lang/String" "coder" "B").before a0 Z = true := hw _ (List.mem_of_getElem? (i := 29) rfl)
theorem w30 {a0 : Array Value} {Z : State} (hw : Hw a0 Z) : (Jvm.Cond.classLink "com/example/elsewhere/elsewhere/SubfieldWithoutSeparatorPinLaw" (27 : Nat) "com/example/elsewhere/elsewhere/Field$Subfield").before a0 Z = true := hw _ (List.mem_of_getElem? (i := 30) rfl)
theorem w31 {a0 : Array Value} {Z : State} (hw : Hw a0 Z) : (Jvm.Cond.instantiable "com/example/elsewhere/elsewhere/Field$Subfield" (2 : Nat)).before a0 Z = true := hw _ (List.mem_of_getElem? (i := 31) rfl)
theorem w32 {a0 : Array Value} {Z : State} (hw : Hw a0 Z) : (Jvm.Cond.initialized "com/example/elsewhere/elsewhere/Field$Subfield").before a0 Z = true := hw _ (List.mem_of_getElem? (i := 32) rfl)
theorem w33 {a0 : Array Value} {Z : State} (hw : Hw a0 Z) : (Jvm.Cond.methodLink "com/example/elsewhere/elsewhere/SubfieldWithoutSeparatorPinLaw" (29 : Nat) ({ cls := "com/example/elsewhere/elsewhere/Field$Subfield", name := "<init>", desc := "(ILjava/lang/String;)V" } : Jvm.MethodName)).before a0 Z = true := hw _ (List.mem_of_getElem? (i := 33) rfl)
theorem w34 {a0 : Array Value} {Z : State} (hw : Hw a0 Z) : (Jvm.Cond.instanceMethod ({ cls := "com/example/elsewhere/elsewhere/Field$Subfield", name := "<init>", desc := "(ILjava/lang/String;)V" } : Jvm.MethodName)).before a0 Z = true := hw _ (List.mem_of_getElem? (i := 34) rfl)
theorem w35 {a0 : Array Value} {Z : State} (hw : Hw a0 Z) : (Jvm.Cond.code ({ cls := "com/example/elsewhere/elsewhere/Field$Subfield", name := "<init>", desc := "(ILjava/lang/String;)V" } : Jvm.MethodName) prog_11_method_1_code (3 : Nat) (Option.none : Option Jvm.ClassFile.FieldType)).before a0 Z = true := hw _ (List.mem_of_getElem? (i := 35) rfl)
theorem w36 {a0 : Array Value} {Z : State} (hw : Hw a0 Z) : (Jvm.Cond.methodLink "com/example/elsewhere/elsewhere/Field$Subfield" (1 : Nat) ({ cls := "java/lang/Record", name := "<init>", desc := "()V" } : Jvm.MethodName)).before a0 Z = true := hw _ (List.mem_of_getElem? (i := 36) rfl)
theorem w37 {a0 : Array Value} {Z : State} (hw : Hw a0 Z) : (Jvm.Cond.instanceMethod ({ cls := "java/lang/Record", name := "<init>", desc := "()V" } : Jvm.MethodName)).before a0 Z = true := hw _ (List.mem_of_getElem? (i := 37) rfl)
theorem w39 {a0 : Array Value} {Z : State} (hw : Hw a0 Z) : (Jvm.Cond.initialized "java/lang/Record").before a0 Z = true := hw _ (List.mem_of_getElem? (i := 39) rfl)
theorem w40 {a0 : Array Value} {Z : State} (hw : Hw a0 Z) : (Jvm.Cond.code ({ cls := "java/lang/Record", name := "<init>", desc := "()V" } : Jvm.MethodName) jdk_30_method_1_code (1 : Nat) (Option.none : Option Jvm.ClassFile.FieldType)).before a0 Z = true := hw _ (List.mem_of_getElem? (i := 40) rfl)
theorem w41 {a0 : Array Value} {Z : State} (hw : Hw a0 Z) : (Jvm.Cond.methodLink "java/lang/Record" (1 : Nat) ({ cls := "java/lang/Object", name := "<init>", desc := "()V" } : Jvm.MethodName)).before a0 Z = true := hw _ (List.mem_of_getElem? (i := 41) rfl)
theorem w42 {a0 : Array Value} {Z : State} (hw : Hw a0 Z) : (Jvm.Cond.fieldLink "com/example/elsewhere/elsewhere/Field$Subfield" (7 : Nat) "com/example/elsewhere/elsewhere/Field$Subfield" "code" "I").before a0 Z = true := hw _ (List.mem_of_getElem? (i := 42) rfl)
theorem w43 {a0 : Array Value} {Z : State} (hw : Hw a0 Z) : (Jvm.Cond.laysFinal "com/example/elsewhere/elsewhere/Field$Subfield" "com/example/elsewhere/elsewhere/Field$Subfield" "code" "I").before a0 Z = true := hw _ (List.mem_of_getElem? (i := 43) rfl)
theorem w44 {a0 : Array Value} {Z : State} (hw : Hw a0 Z) : (Jvm.Cond.fieldLink "com/example/elsewhere/elsewhere/Field$Subfield" (13 : Nat) "com/example/elsewhere/elsewhere/Field$Subfield" "value" "Ljava/lang/String;").before a0 Z = true := hw _ (List.mem_of_getElem? (i := 44) rfl)
theorem w45 {a0 : Array Value} {Z : State} (hw : Hw a0 Z) : (Jvm.Cond.laysFinal "com/example/elsewhere/elsewhere/Field$Subfield" "com/example/elsewhere/elsewhere/Field$Subfield" "value" "Ljava/lang/String;").before a0 Z = true := hw _ (List.mem_of_getElem? (i := 45) rfl)
theorem w46 {a0 : Array Value} {Z : State} (hw : Hw a0 Z) : (Jvm.Cond.methodLink "com/example/elsewhere/elsewhere/SubfieldWithoutSeparatorPinLaw" (32 : Nat) ({ cls := "com/example/elsewhere/elsewhere/Field$Subfield", name := "withoutSeparator", desc := "()Ljava/lang/String;" } : Jvm.MethodName)).before a0 Z = true := hw _ (List.mem_of_getElem? (i := 46) rfl)
theorem w47 {a0 : Array Value} {Z : State} (hw : Hw a0 Z) : (Jvm.Cond.declares ({ cls := "com/example/elsewhere/elsewhere/Field$Subfield", name := "withoutSeparator", desc := "()Ljava/lang/String;" } : Jvm.MethodName)).before a0 Z = true := hw _ (List.mem_of_getElem? (i := 47) rfl)
theorem w48 {a0 : Array Value} {Z : State} (hw : Hw a0 Z) : (Jvm.Cond.instanceMethod ({ cls := "com/example/elsewhere/elsewhere/Field$Subfield", name := "withoutSeparator", desc := "()Ljava/lang/String;" } : Jvm.MethodName)).before a0 Z = true := hw _ (List.mem_of_getElem? (i := 48) rfl)
theorem w49 {a0 : Array Value} {Z : State} (hw : Hw a0 Z) : (Jvm.Cond.selects "com/example/elsewhere/elsewhere/Field$Subfield" ({ cls := "com/example/elsewhere/elsewhere/Field$Subfield", name := "withoutSeparator", desc := "()Ljava/lang/String;" } : Jvm.MethodName) ({ cls := "com/example/elsewhere/elsewhere/Field$Subfield", name := "withoutSeparator", desc := "()Ljava/lang/String;" } : Jvm.MethodName)).before a0 Z = true := hw _ (List.mem_of_getElem? (i := 49) rfl)
theorem w50 {a0 : Array Value} {Z : State} (hw : Hw a0 Z) : (Jvm.Cond.code ({ cls := "com/example/elsewhere/elsewhere/Field$Subfield", name := "withoutSeparator", desc := "()Ljava/lang/String;" } : Jvm.MethodName) prog_11_method_3_code (3 : Nat) (Option.some (Jvm.ClassFile.FieldType.object "java/lang/String"))).before a0 Z = true := hw _ (List.mem_of_getElem? (i := 50) rfl)
theorem w51 {a0 : Array Value} {Z : State} (hw : Hw a0 Z) : (Jvm.Cond.methodLink "com/example/elsewhere/elsewhere/Field$Subfield" (17 : Nat) ({ cls := "java/lang/String", name := "length", desc := "()I" } : Jvm.MethodName)).before a0 Z = true := hw _ (List.mem_of_getElem? (i := 51) rfl)
theorem w52 {a0 : Array Value} {Z : State} (hw : Hw a0 Z) : (Jvm.Cond.declares ({ cls := "java/lang/String", name := "length", desc := "()I" } : Jvm.MethodName)).before a0 Z = true := hw _ (List.mem_of_getElem? (i := 52) rfl)
theorem w53 {a0 : Array Value} {Z : State} (hw : Hw a0 Z) : (Jvm.Cond.instanceMethod ({ cls := "java/lang/String", name := "length", desc := "()I" } : Jvm.MethodName)).before a0 Z = true := hw _ (List.mem_of_getElem? (i := 53) rfl)
theorem w54 {a0 : Array Value} {Z : State} (hw : Hw a0 Z) : (Jvm.Cond.selects "java/lang/String" ({ cls := "java/lang/String", name := "length", desc := "()I" } : Jvm.MethodName) ({ cls := "java/lang/String", name := "length", desc := "()I" } : Jvm.MethodName)).before a0 Z = true := hw _ (List.mem_of_getElem? (i := 54) rfl)
theorem w55 {a0 : Array Value} {Z : State} (hw : Hw a0 Z) : (Jvm.Cond.code ({ cls := "java/lang/String", name := "length", desc := "()I" } : Jvm.MethodName) jdk_42_method_54_code (1 : Nat) (Option.some Jvm.ClassFile.FieldType.int)).before a0 Z = true := hw _ (List.mem_of_getElem? (i := 55) rfl)
theorem w56 {a0 : Array Value} {Z : State} (hw : Hw a0 Z) : (Jvm.Cond.methodLink "java/lang/String" (335 : Nat) ({ cls := "java/lang/String", name := "coder", desc := "()B" } : Jvm.MethodName)).before a0 Z = true := hw _ (List.mem_of_getElem? (i := 56) rfl)
theorem w57 {a0 : Array Value} {Z : State} (hw : Hw a0 Z) : (Jvm.Cond.declares ({ cls := "java/lang/String", name := "coder", desc := "()B" } : Jvm.MethodName)).before a0 Z = true := hw _ (List.mem_of_getElem? (i := 57) rfl)
theorem w58 {a0 : Array Value} {Z : State} (hw : Hw a0 Z) : (Jvm.Cond.instanceMethod ({ cls := "java/lang/String", name := "coder", desc := "()B" } : Jvm.MethodName)).before a0 Z = true := hw _ (List.mem_of_getElem? (i := 58) rfl)
theorem w59 {a0 : Array Value} {Z : State} (hw : Hw a0 Z) : (Jvm.Cond.selects "java/lang/String" ({ cls := "java/lang/String", name := "coder", desc := "()B" } : Jvm.MethodName) ({ cls := "java/lang/String", name := "coder", desc := "()B" } : Jvm.MethodName)).before a0 Z = true := hw _ (List.mem_of_getElem? (i := 59) rfl)
theorem w60 {a0 : Array Value} {Z : State} (hw : Hw a0 Z) : (Jvm.Cond.code ({ cls := "java/lang/String", name := "coder", desc := "()B" } : Jvm.MethodName) jdk_42_method_152_code (1 : Nat) (Option.some Jvm.ClassFile.FieldType.byte)).before a0 Z = true := hw _ (List.mem_of_getElem? (i := 60) rfl)
theorem w61 {a0 : Array Value} {Z : State} (hw : Hw a0 Z) : (Jvm.Cond.fieldLink "java/lang/String" (38 : Nat) "java/lang/String" "COMPACT_STRINGS" "Z").before a0 Z = true := hw _ (List.mem_of_getElem? (i := 61) rfl)
theorem w62 {a0 : Array Value} {Z : State} (hw : Hw a0 Z) : (Jvm.Cond.methodLink "com/example/elsewhere/elsewhere/Field$Subfield" (27 : Nat) ({ cls := "com/example/elsewhere/elsewhere/Field$Subfield", name := "endBeforeSpaces", desc := "(II)I" } : Jvm.MethodName)).before a0 Z = true := hw _ (List.mem_of_getElem? (i := 62) rfl)
theorem w63 {a0 : Array Value} {Z : State} (hw : Hw a0 Z) : (Jvm.Cond.instanceMethod ({ cls := "com/example/elsewhere/elsewhere/Field$Subfield", name := "endBeforeSpaces", desc := "(II)I" } : Jvm.MethodName)).before a0 Z = true := hw _ (List.mem_of_getElem? (i := 63) rfl)
theorem w64 {a0 : Array Value} {Z : State} (hw : Hw a0 Z) : (Jvm.Cond.privateMethod ({ cls := "com/example/elsewhere/elsewhere/Field$Subfield", name := "endBeforeSpaces", desc := "(II)I" } : Jvm.MethodName)).before a0 Z = true := hw _ (List.mem_of_getElem? (i := 64) rfl)
theorem w65 {a0 : Array Value} {Z : State} (hw : Hw a0 Z) : (Jvm.Cond.code ({ cls := "com/example/elsewhere/elsewhere/Field$Subfield", name := "endBeforeSpaces", desc := "(II)I" } : Jvm.MethodName) prog_11_method_5_code (4 : Nat) (Option.some Jvm.ClassFile.FieldType.int)).before a0 Z = true := hw _ (List.mem_of_getElem? (i := 65) rfl)
theorem w66 {a0 : Array Value} {Z : State} (hw : Hw a0 Z) : (Jvm.Cond.methodLink "com/example/elsewhere/elsewhere/Field$Subfield" (31 : Nat) ({ cls := "com/example/elsewhere/elsewhere/Field$Subfield", name := "endBeforeSeparator", desc := "(II)I" } : Jvm.MethodName)).before a0 Z = true := hw _ (List.mem_of_getElem? (i := 66) rfl)
theorem w67 {a0 : Array Value} {Z : State} (hw : Hw a0 Z) : (Jvm.Cond.instanceMethod ({ cls := "com/example/elsewhere/elsewhere/Field$Subfield", name := "endBeforeSeparator", desc := "(II)I" } : Jvm.MethodName)).before a0 Z = true := hw _ (List.mem_of_getElem? (i := 67) rfl)
theorem w68 {a0 : Array Value} {Z : State} (hw : Hw a0 Z) : (Jvm.Cond.privateMethod ({ cls := "com/example/elsewhere/elsewhere/Field$Subfield", name := "endBeforeSeparator", desc := "(II)I" } : Jvm.MethodName)).before a0 Z = true := hw _ (List.mem_of_getElem? (i := 68) rfl)
theorem w69 {a0 : Array Value} {Z : State} (hw : Hw a0 Z) : (Jvm.Cond.code ({ cls := "com/example/elsewhere/elsewhere/Field$Subfield", name := "endBeforeSeparator", desc := "(II)I" } : Jvm.MethodName) prog_11_method_4_code (3 : Nat) (Option.some Jvm.ClassFile.FieldType.int)).before a0 Z = true := hw _ (List.mem_of_getElem? (i := 69) rfl)
theorem w70 {a0 : Array Value} {Z : State} (hw : Hw a0 Z) : (Jvm.Cond.methodLink "com/example/elsewhere/elsewhere/SubfieldWithoutSeparatorPinLaw" (36 : Nat) ({ cls := "com/example/elsewhere/elsewhere/SubfieldWithoutSeparatorPinLaw", name := "strip", desc := "([CI)I" } : Jvm.MethodName)).before a0 Z = true := hw _ (List.mem_of_getElem? (i := 70) rfl)
theorem w71 {a0 : Array Value} {Z : State} (hw : Hw a0 Z) : (Jvm.Cond.static ({ cls := "com/example/elsewhere/elsewhere/SubfieldWithoutSeparatorPinLaw", name := "strip", desc := "([CI)I" } : Jvm.MethodName)).before a0 Z = true := hw _ (List.mem_of_getElem? (i := 71) rfl)
theorem w72 {a0 : Array Value} {Z : State} (hw : Hw a0 Z) : (Jvm.Cond.code ({ cls := "com/example/elsewhere/elsewhere/SubfieldWithoutSeparatorPinLaw", name := "strip", desc := "([CI)I" } : Jvm.MethodName) method_4_code (3 : Nat) (Option.some Jvm.ClassFile.FieldType.int)).before a0 Z = true := hw _ (List.mem_of_getElem? (i := 72) rfl)
theorem w73 {a0 : Array Value} {Z : State} (hw : Hw a0 Z) : (Jvm.Cond.methodLink "com/example/elsewhere/elsewhere/SubfieldWithoutSeparatorPinLaw" (48 : Nat) ({ cls := "java/lang/String", name := "equals", desc := "(Ljava/lang/Object;)Z" } : Jvm.MethodName)).before a0 Z = true := hw _ (List.mem_of_getElem? (i := 73) rfl)
theorem w74 {a0 : Array Value} {Z : State} (hw : Hw a0 Z) : (Jvm.Cond.declares ({ cls := "java/lang/String", name := "equals", desc := "(Ljava/lang/Object;)Z" } : Jvm.MethodName)).before a0 Z = true := hw _ (List.mem_of_getElem? (i := 74) rfl)
theorem w75 {a0 : Array Value} {Z : State} (hw : Hw a0 Z) : (Jvm.Cond.instanceMethod ({ cls := "java/lang/String", name := "equals", desc := "(Ljava/lang/Object;)Z" } : Jvm.MethodName)).before a0 Z = true := hw _ (List.mem_of_getElem? (i := 75) rfl)
theorem w76 {a0 : Array Value} {Z : State} (hw : Hw a0 Z) : (Jvm.Cond.selects "java/lang/String" ({ cls := "java/lang/String", name := "equals", desc := "(Ljava/lang/Object;)Z" } : Jvm.MethodName) ({ cls := "java/lang/String", name := "equals", desc := "(Ljava/lang/Object;)Z" } : Jvm.MethodName)).before a0 Z = true := hw _ (List.mem_of_getElem? (i := 76) rfl)
theorem w77 {a0 : Array Value} {Z : State} (hw : Hw a0 Z) : (Jvm.Cond.code ({ cls := "java/lang/String", name := "equals", desc := "(Ljava/lang/Object;)Z" } : Jvm.MethodName) jdk_42_method_66_code (3 : Nat) (Option.some Jvm.ClassFile.FieldType.boolean)).before a0 Z = true := hw _ (List.mem_of_getElem? (i := 77) rfl)
theorem w78 {a0 : Array Value} {Z : State} (hw : Hw a0 Z) : (Jvm.Cond.constant "com/example/elsewhere/elsewhere/SubfieldWithoutSeparatorPinLaw" (7 : Nat) (65535 : Int32)).before a0 Z = true := hw _ (List.mem_of_getElem? (i := 78) rfl)
theorem w79 {a0 : Array Value} {Z : State} (hw : Hw a0 Z) : (Jvm.Cond.methodLink "java/lang/String" (177 : Nat) ({ cls := "java/lang/StringUTF16", name := "compress", desc := "([CII)[B" } : Jvm.MethodName)).before a0 Z = true := hw _ (List.mem_of_getElem? (i := 79) rfl)
theorem w80 {a0 : Array Value} {Z : State} (hw : Hw a0 Z) : (Jvm.Cond.static ({ cls := "java/lang/StringUTF16", name := "compress", desc := "([CII)[B" } : Jvm.MethodName)).before a0 Z = true := hw _ (List.mem_of_getElem? (i := 80) rfl)
theorem w81 {a0 : Array Value} {Z : State} (hw : Hw a0 Z) : (Jvm.Cond.initialized "java/lang/StringUTF16").before a0 Z = true := hw _ (List.mem_of_getElem? (i := 81) rfl)
theorem w82 {a0 : Array Value} {Z : State} (hw : Hw a0 Z) : (Jvm.Cond.code ({ cls := "java/lang/StringUTF16", name := "compress", desc := "([CII)[B" } : Jvm.MethodName) jdk_52_method_16_code (6 : Nat) (Option.some (Jvm.ClassFile.FieldType.array Jvm.ClassFile.FieldType.byte))).before a0 Z = true := hw _ (List.mem_of_getElem? (i := 82) rfl)
theorem w83 {a0 : Array Value} {Z : State} (hw : Hw a0 Z) : (Jvm.Cond.methodLink "java/lang/StringUTF16" (115 : Nat) ({ cls := "java/lang/StringUTF16", name := "compress", desc := "([CI[BII)I" } : Jvm.MethodName)).before a0 Z = true := hw _ (List.mem_of_getElem? (i := 83) rfl)
theorem w84 {a0 : Array Value} {Z : State} (hw : Hw a0 Z) : (Jvm.Cond.static ({ cls := "java/lang/StringUTF16", name := "compress", desc := "([CI[BII)I" } : Jvm.MethodName)).before a0 Z = true := hw _ (List.mem_of_getElem? (i := 84) rfl)
theorem w85 {a0 : Array Value} {Z : State} (hw : Hw a0 Z) : (Jvm.Cond.code ({ cls := "java/lang/StringUTF16", name := "compress", desc := "([CI[BII)I" } : Jvm.MethodName) jdk_52_method_21_code (7 : Nat) (Option.some Jvm.ClassFile.FieldType.int)).before a0 Z = true := hw _ (List.mem_of_getElem? (i := 85) rfl)
theorem w86 {a0 : Array Value} {Z : State} (hw : Hw a0 Z) : (Jvm.Cond.methodLink "java/lang/String" (47 : Nat) ({ cls := "java/lang/StringUTF16", name := "coderFromArrayLen", desc := "([BI)B" } : Jvm.MethodName)).before a0 Z = true := hw _ (List.mem_of_getElem? (i := 86) rfl)
theorem w87 {a0 : Array Value} {Z : State} (hw : Hw a0 Z) : (Jvm.Cond.static ({ cls := "java/lang/StringUTF16", name := "coderFromArrayLen", desc := "([BI)B" } : Jvm.MethodName)).before a0 Z = true := hw _ (List.mem_of_getElem? (i := 87) rfl)
theorem w88 {a0 : Array Value} {Z : State} (hw : Hw a0 Z) : (Jvm.Cond.code ({ cls := "java/lang/StringUTF16", name := "coderFromArrayLen", desc := "([BI)B" } : Jvm.MethodName) jdk_52_method_15_code (2 : Nat) (Option.some Jvm.ClassFile.FieldType.byte)).before a0 Z = true := hw _ (List.mem_of_getElem? (i := 88) rfl)
theorem w89 {a0 : Array Value} {Z : State} (hw : Hw a0 Z) : (Jvm.Cond.methodLink "com/example/elsewhere/elsewhere/Field$Subfield" (23 : Nat) ({ cls := "java/lang/String", name := "charAt", desc := "(I)C" } : Jvm.MethodName)).before a0 Z = true := hw _ (List.mem_of_getElem? (i := 89) rfl)
theorem w90 {a0 : Array Value} {Z : State} (hw : Hw a0 Z) : (Jvm.Cond.declares ({ cls := "java/lang/String", name := "charAt", desc := "(I)C" } : Jvm.MethodName)).before a0 Z = true := hw _ (List.mem_of_getElem? (i := 90) rfl)
theorem w91 {a0 : Array Value} {Z : State} (hw : Hw a0 Z) : (Jvm.Cond.instanceMethod ({ cls := "java/lang/String", name := "charAt", desc := "(I)C" } : Jvm.MethodName)).before a0 Z = true := hw _ (List.mem_of_getElem? (i := 91) rfl)
theorem w92 {a0 : Array Value} {Z : State} (hw : Hw a0 Z) : (Jvm.Cond.selects "java/lang/String" ({ cls := "java/lang/String", name := "charAt", desc := "(I)C" } : Jvm.MethodName) ({ cls := "java/lang/String", name := "charAt", desc := "(I)C" } : Jvm.MethodName)).before a0 Z = true := hw _ (List.mem_of_getElem? (i := 92) rfl)
theorem w93 {a0 : Array Value} {Z : State} (hw : Hw a0 Z) : (Jvm.Cond.code ({ cls := "java/lang/String", name := "charAt", desc := "(I)C" } : Jvm.MethodName) jdk_42_method_56_code (2 : Nat) (Option.some Jvm.ClassFile.FieldType.char)).before a0 Z = true := hw _ (List.mem_of_getElem? (i := 93) rfl)
theorem w94 {a0 : Array Value} {Z : State} (hw : Hw a0 Z) : (Jvm.Cond.methodLink "java/lang/String" (492 : Nat) ({ cls := "java/lang/String", name := "isLatin1", desc := "()Z" } : Jvm.MethodName)).before a0 Z = true := hw _ (List.mem_of_getElem? (i := 94) rfl)
theorem w95 {a0 : Array Value} {Z : State} (hw : Hw a0 Z) : (Jvm.Cond.declares ({ cls := "java/lang/String", name := "isLatin1", desc := "()Z" } : Jvm.MethodName)).before a0 Z = true := hw _ (List.mem_of_getElem? (i := 95) rfl)
theorem w96 {a0 : Array Value} {Z : State} (hw : Hw a0 Z) : (Jvm.Cond.instanceMethod ({ cls := "java/lang/String", name := "isLatin1", desc := "()Z" } : Jvm.MethodName)).before a0 Z = true := hw _ (List.mem_of_getElem? (i := 96) rfl)
theorem w97 {a0 : Array Value} {Z : State} (hw : Hw a0 Z) : (Jvm.Cond.selects "java/lang/String" ({ cls := "java/lang/String", name := "isLatin1", desc := "()Z" } : Jvm.MethodName) ({ cls := "java/lang/String", name := "isLatin1", desc := "()Z" } : Jvm.MethodName)).before a0 Z = true := hw _ (List.mem_of_getElem? (i := 97) rfl)
theorem w98 {a0 : Array Value} {Z : State} (hw : Hw a0 Z) : (Jvm.Cond.code ({ cls := "java/lang/String", name := "isLatin1", desc := "()Z" } : Jvm.MethodName) jdk_42_method_154_code (1 : Nat) (Option.some Jvm.ClassFile.FieldType.boolean)).before a0 Z = true := hw _ (List.mem_of_getElem? (i := 98) rfl)
theorem w99 {a0 : Array Value} {Z : State} (hw : Hw a0 Z) : (Jvm.Cond.methodLink "java/lang/String" (495 : Nat) ({ cls := "java/lang/StringLatin1", name := "charAt", desc := "([BI)C" } : Jvm.MethodName)).before a0 Z = true := hw _ (List.mem_of_getElem? (i := 99) rfl)
theorem w100 {a0 : Array Value} {Z : State} (hw : Hw a0 Z) : (Jvm.Cond.static ({ cls := "java/lang/StringLatin1", name := "charAt", desc := "([BI)C" } : Jvm.MethodName)).before a0 Z = true := hw _ (List.mem_of_getElem? (i := 100) rfl)
theorem w101 {a0 : Array Value} {Z : State} (hw : Hw a0 Z) : (Jvm.Cond.initialized "java/lang/StringLatin1").before a0 Z = true := hw _ (List.mem_of_getElem? (i := 101) rfl)
theorem w102 {a0 : Array Value} {Z : State} (hw : Hw a0 Z) : (Jvm.Cond.code ({ cls := "java/lang/StringLatin1", name := "charAt", desc := "([BI)C" } : Jvm.MethodName) jdk_43_method_2_code (2 : Nat) (Option.some Jvm.ClassFile.FieldType.char)).before a0 Z = true := hw _ (List.mem_of_getElem? (i := 102) rfl)
theorem w103 {a0 : Array Value} {Z : State} (hw : Hw a0 Z) : (Jvm.Cond.methodLink "java/lang/StringLatin1" (9 : Nat) ({ cls := "java/lang/String", name := "checkIndex", desc := "(II)V" } : Jvm.MethodName)).before a0 Z = true := hw _ (List.mem_of_getElem? (i := 103) rfl)
theorem w104 {a0 : Array Value} {Z : State} (hw : Hw a0 Z) : (Jvm.Cond.static ({ cls := "java/lang/String", name := "checkIndex", desc := "(II)V" } : Jvm.MethodName)).before a0 Z = true := hw _ (List.mem_of_getElem? (i := 104) rfl)
theorem w105 {a0 : Array Value} {Z : State} (hw : Hw a0 Z) : (Jvm.Cond.code ({ cls := "java/lang/String", name := "checkIndex", desc := "(II)V" } : Jvm.MethodName) jdk_42_method_155_code (2 : Nat) (Option.none : Option Jvm.ClassFile.FieldType)).before a0 Z = true := hw _ (List.mem_of_getElem? (i := 105) rfl)
theorem w106 {a0 : Array Value} {Z : State} (hw : Hw a0 Z) : (Jvm.Cond.fieldLink "java/lang/String" (1053 : Nat) "jdk/internal/util/Preconditions" "SIOOBE_FORMATTER" "Ljava/util/function/BiFunction;").before a0 Z = true := hw _ (List.mem_of_getElem? (i := 106) rfl)
theorem w107 {a0 : Array Value} {Z : State} (hw : Hw a0 Z) : (Jvm.Cond.initialized "jdk/internal/util/Preconditions").before a0 Z = true := hw _ (List.mem_of_getElem? (i := 107) rfl)
theorem w108 {a0 : Array Value} {Z : State} (hw : Hw a0 Z) : (Jvm.Cond.methodLink "java/lang/String" (1059 : Nat) ({ cls := "jdk/internal/util/Preconditions", name := "checkIndex", desc := "(IILjava/util/function/BiFunction;)I" } : Jvm.MethodName)).before a0 Z = true := hw _ (List.mem_of_getElem? (i := 108) rfl)
theorem w109 {a0 : Array Value} {Z : State} (hw : Hw a0 Z) : (Jvm.Cond.static ({ cls := "jdk/internal/util/Preconditions", name := "checkIndex", desc := "(IILjava/util/function/BiFunction;)I" } : Jvm.MethodName)).before a0 Z = true := hw _ (List.mem_of_getElem? (i := 109) rfl)
theorem w110 {a0 : Array Value} {Z : State} (hw : Hw a0 Z) : (Jvm.Cond.code ({ cls := "jdk/internal/util/Preconditions", name := "checkIndex", desc := "(IILjava/util/function/BiFunction;)I" } : Jvm.MethodName) jdk_41_method_11_code (3 : Nat) (Option.some Jvm.ClassFile.FieldType.int)).before a0 Z = true := hw _ (List.mem_of_getElem? (i := 110) rfl)
theorem w111 {a0 : Array Value} {Z : State} (hw : Hw a0 Z) : (Jvm.Cond.stringLink "com/example/elsewhere/elsewhere/Field$Subfield" (38 : Nat) ";,:").before a0 Z = true := hw _ (List.mem_of_getElem? (i := 111) rfl)
theorem w112 {a0 : Array Value} {Z : State} (hw : Hw a0 Z) : (Jvm.Cond.methodLink "com/example/elsewhere/elsewhere/Field$Subfield" (40 : Nat) ({ cls := "java/lang/String", name := "indexOf", desc := "(I)I" } : Jvm.MethodName)).before a0 Z = true := hw _ (List.mem_of_getElem? (i := 112) rfl)
theorem w113 {a0 : Array Value} {Z : State} (hw : Hw a0 Z) : (Jvm.Cond.declares ({ cls := "java/lang/String", name := "indexOf", desc := "(I)I" } : Jvm.MethodName)).before a0 Z = true := hw _ (List.mem_of_getElem? (i := 113) rfl)
theorem w114 {a0 : Array Value} {Z : State} (hw : Hw a0 Z) : (Jvm.Cond.instanceMethod ({ cls := "java/lang/String", name := "indexOf", desc := "(I)I" } : Jvm.MethodName)).before a0 Z = true := hw _ (List.mem_of_getElem? (i := 114) rfl)
theorem w115 {a0 : Array Value} {Z : State} (hw : Hw a0 Z) : (Jvm.Cond.selects "java/lang/String" ({ cls := "java/lang/String", name := "indexOf", desc := "(I)I" } : Jvm.MethodName) ({ cls := "java/lang/String", name := "indexOf", desc := "(I)I" } : Jvm.MethodName)).before a0 Z = true := hw _ (List.mem_of_getElem? (i := 115) rfl)
theorem w116 {a0 : Array Value} {Z : State} (hw : Hw a0 Z) : (Jvm.Cond.code ({ cls := "java/lang/String", name := "indexOf", desc := "(I)I" } : Jvm.MethodName) jdk_42_method_79_code (2 : Nat) (Option.some Jvm.ClassFile.FieldType.int)).before a0 Z = true := hw _ (List.mem_of_getElem? (i := 116) rfl)
theorem w117 {a0 : Array Value} {Z : State} (hw : Hw a0 Z) : (Jvm.Cond.methodLink "java/lang/String" (633 : Nat) ({ cls := "java/lang/String", name := "indexOf", desc := "(II)I" } : Jvm.MethodName)).before a0 Z = true := hw _ (List.mem_of_getElem? (i := 117) rfl)
theorem w118 {a0 : Array Value} {Z : State} (hw : Hw a0 Z) : (Jvm.Cond.declares ({ cls := "java/lang/String", name := "indexOf", desc := "(II)I" } : Jvm.MethodName)).before a0 Z = true := hw _ (List.mem_of_getElem? (i := 118) rfl)
theorem w119 {a0 : Array Value} {Z : State} (hw : Hw a0 Z) : (Jvm.Cond.instanceMethod ({ cls := "java/lang/String", name := "indexOf", desc := "(II)I" } : Jvm.MethodName)).before a0 Z = true := hw _ (List.mem_of_getElem? (i := 119) rfl)
theorem w120 {a0 : Array Value} {Z : State} (hw : Hw a0 Z) : (Jvm.Cond.selects "java/lang/String" ({ cls := "java/lang/String", name := "indexOf", desc := "(II)I" } : Jvm.MethodName) ({ cls := "java/lang/String", name := "indexOf", desc := "(II)I" } : Jvm.MethodName)).before a0 Z = true := hw _ (List.mem_of_getElem? (i := 120) rfl)
theorem w121 {a0 : Array Value} {Z : State} (hw : Hw a0 Z) : (Jvm.Cond.code ({ cls := "java/lang/String", name := "indexOf", desc := "(II)I" } : Jvm.MethodName) jdk_42_method_80_code (3 : Nat) (Option.some Jvm.ClassFile.FieldType.int)).before a0 Z = true := hw _ (List.mem_of_getElem? (i := 121) rfl)
theorem w122 {a0 : Array Value} {Z : State} (hw : Hw a0 Z) : (Jvm.Cond.methodLink "java/lang/String" (505 : Nat) ({ cls := "java/lang/String", name := "length", desc := "()I" } : Jvm.MethodName)).before a0 Z = true := hw _ (List.mem_of_getElem? (i := 122) rfl)
theorem w123 {a0 : Array Value} {Z : State} (hw : Hw a0 Z) : (Jvm.Cond.methodLink "java/lang/String" (637 : Nat) ({ cls := "java/lang/StringLatin1", name := "indexOf", desc := "([BIII)I" } : Jvm.MethodName)).before a0 Z = true := hw _ (List.mem_of_getElem? (i := 123) rfl)
theorem w124 {a0 : Array Value} {Z : State} (hw : Hw a0 Z) : (Jvm.Cond.static ({ cls := "java/lang/StringLatin1", name := "indexOf", desc := "([BIII)I" } : Jvm.MethodName)).before a0 Z = true := hw _ (List.mem_of_getElem? (i := 124) rfl)
theorem w125 {a0 : Array Value} {Z : State} (hw : Hw a0 Z) : (Jvm.Cond.code ({ cls := "java/lang/StringLatin1", name := "indexOf", desc := "([BIII)I" } : Jvm.MethodName) jdk_43_method_22_code (4 : Nat) (Option.some Jvm.ClassFile.FieldType.int)).before a0 Z = true := hw _ (List.mem_of_getElem? (i := 125) rfl)
theorem w126 {a0 : Array Value} {Z : State} (hw : Hw a0 Z) : (Jvm.Cond.methodLink "java/lang/StringLatin1" (88 : Nat) ({ cls := "java/lang/StringLatin1", name := "canEncode", desc := "(I)Z" } : Jvm.MethodName)).before a0 Z = true := hw _ (List.mem_of_getElem? (i := 126) rfl)
theorem w127 {a0 : Array Value} {Z : State} (hw : Hw a0 Z) : (Jvm.Cond.static ({ cls := "java/lang/StringLatin1", name := "canEncode", desc := "(I)Z" } : Jvm.MethodName)).before a0 Z = true := hw _ (List.mem_of_getElem? (i := 127) rfl)
theorem w128 {a0 : Array Value} {Z : State} (hw : Hw a0 Z) : (Jvm.Cond.code ({ cls := "java/lang/StringLatin1", name := "canEncode", desc := "(I)Z" } : Jvm.MethodName) jdk_43_method_4_code (1 : Nat) (Option.some Jvm.ClassFile.FieldType.boolean)).before a0 Z = true := hw _ (List.mem_of_getElem? (i := 128) rfl)
theorem w129 {a0 : Array Value} {Z : State} (hw : Hw a0 Z) : (Jvm.Cond.methodLink "java/lang/StringLatin1" (92 : Nat) ({ cls := "java/lang/Math", name := "max", desc := "(II)I" } : Jvm.MethodName)).before a0 Z = true := hw _ (List.mem_of_getElem? (i := 129) rfl)
theorem w130 {a0 : Array Value} {Z : State} (hw : Hw a0 Z) : (Jvm.Cond.static ({ cls := "java/lang/Math", name := "max", desc := "(II)I" } : Jvm.MethodName)).before a0 Z = true := hw _ (List.mem_of_getElem? (i := 130) rfl)
theorem w131 {a0 : Array Value} {Z : State} (hw : Hw a0 Z) : (Jvm.Cond.initialized "java/lang/Math").before a0 Z = true := hw _ (List.mem_of_getElem? (i := 131) rfl)
theorem w132 {a0 : Array Value} {Z : State} (hw : Hw a0 Z) : (Jvm.Cond.code ({ cls := "java/lang/Math", name := "max", desc := "(II)I" } : Jvm.MethodName) jdk_29_method_65_code (2 : Nat) (Option.some Jvm.ClassFile.FieldType.int)).before a0 Z = true := hw _ (List.mem_of_getElem? (i := 132) rfl)
theorem w133 {a0 : Array Value} {Z : State} (hw : Hw a0 Z) : (Jvm.Cond.methodLink "java/lang/StringLatin1" (38 : Nat) ({ cls := "java/lang/Math", name := "min", desc := "(II)I" } : Jvm.MethodName)).before a0 Z = true := hw _ (List.mem_of_getElem? (i := 133) rfl)
theorem w134 {a0 : Array Value} {Z : State} (hw : Hw a0 Z) : (Jvm.Cond.static ({ cls := "java/lang/Math", name := "min", desc := "(II)I" } : Jvm.MethodName)).before a0 Z = true := hw _ (List.mem_of_getElem? (i := 134) rfl)
theorem w135 {a0 : Array Value} {Z : State} (hw : Hw a0 Z) : (Jvm.Cond.code ({ cls := "java/lang/Math", name := "min", desc := "(II)I" } : Jvm.MethodName) jdk_29_method_69_code (2 : Nat) (Option.some Jvm.ClassFile.FieldType.int)).before a0 Z = true := hw _ (List.mem_of_getElem? (i := 135) rfl)
theorem w136 {a0 : Array Value} {Z : State} (hw : Hw a0 Z) : (Jvm.Cond.methodLink "java/lang/StringLatin1" (95 : Nat) ({ cls := "java/lang/StringLatin1", name := "indexOfChar", desc := "([BIII)I" } : Jvm.MethodName)).before a0 Z = true := hw _ (List.mem_of_getElem? (i := 136) rfl)
theorem w137 {a0 : Array Value} {Z : State} (hw : Hw a0 Z) : (Jvm.Cond.static ({ cls := "java/lang/StringLatin1", name := "indexOfChar", desc := "([BIII)I" } : Jvm.MethodName)).before a0 Z = true := hw _ (List.mem_of_getElem? (i := 137) rfl)
theorem w138 {a0 : Array Value} {Z : State} (hw : Hw a0 Z) : (Jvm.Cond.code ({ cls := "java/lang/StringLatin1", name := "indexOfChar", desc := "([BIII)I" } : Jvm.MethodName) jdk_43_method_23_code (6 : Nat) (Option.some Jvm.ClassFile.FieldType.int)).before a0 Z = true := hw _ (List.mem_of_getElem? (i := 138) rfl)
theorem w139 {a0 : Array Value} {Z : State} (hw : Hw a0 Z) : (Jvm.Cond.methodLink "com/example/elsewhere/elsewhere/Field$Subfield" (34 : Nat) ({ cls := "java/lang/String", name := "substring", desc := "(II)Ljava/lang/String;" } : Jvm.MethodName)).before a0 Z = true := hw _ (List.mem_of_getElem? (i := 139) rfl)
theorem w140 {a0 : Array Value} {Z : State} (hw : Hw a0 Z) : (Jvm.Cond.declares ({ cls := "java/lang/String", name := "substring", desc := "(II)Ljava/lang/String;" } : Jvm.MethodName)).before a0 Z = true := hw _ (List.mem_of_getElem? (i := 140) rfl)
theorem w141 {a0 : Array Value} {Z : State} (hw : Hw a0 Z) : (Jvm.Cond.instanceMethod ({ cls := "java/lang/String", name := "substring", desc := "(II)Ljava/lang/String;" } : Jvm.MethodName)).before a0 Z = true := hw _ (List.mem_of_getElem? (i := 141) rfl)
theorem w142 {a0 : Array Value} {Z : State} (hw : Hw a0 Z) : (Jvm.Cond.selects "java/lang/String" ({ cls := "java/lang/String", name := "substring", desc := "(II)Ljava/lang/String;" } : Jvm.MethodName) ({ cls := "java/lang/String", name := "substring", desc := "(II)Ljava/lang/String;" } : Jvm.MethodName)).before a0 Z = true := hw _ (List.mem_of_getElem? (i := 142) rfl)
theorem w143 {a0 : Array Value} {Z : State} (hw : Hw a0 Z) : (Jvm.Cond.code ({ cls := "java/lang/String", name := "substring", desc := "(II)Ljava/lang/String;" } : Jvm.MethodName) jdk_42_method_92_code (5 : Nat) (Option.some (Jvm.ClassFile.FieldType.object "java/lang/String"))).before a0 Z = true := hw _ (List.mem_of_getElem? (i := 143) rfl)
theorem w144 {a0 : Array Value} {Z : State} (hw : Hw a0 Z) : (Jvm.Cond.methodLink "java/lang/String" (521 : Nat) ({ cls := "java/lang/String", name := "checkBoundsBeginEnd", desc := "(III)V" } : Jvm.MethodName)).before a0 Z = true := hw _ (List.mem_of_getElem? (i := 144) rfl)
theorem w145 {a0 : Array Value} {Z : State} (hw : Hw a0 Z) : (Jvm.Cond.static ({ cls := "java/lang/String", name := "checkBoundsBeginEnd", desc := "(III)V" } : Jvm.MethodName)).before a0 Z = true := hw _ (List.mem_of_getElem? (i := 145) rfl)
theorem w146 {a0 : Array Value} {Z : State} (hw : Hw a0 Z) : (Jvm.Cond.code ({ cls := "java/lang/String", name := "checkBoundsBeginEnd", desc := "(III)V" } : Jvm.MethodName) jdk_42_method_158_code (3 : Nat) (Option.none : Option Jvm.ClassFile.FieldType)).before a0 Z = true := hw _ (List.mem_of_getElem? (i := 146) rfl)
theorem w147 {a0 : Array Value} {Z : State} (hw : Hw a0 Z) : (Jvm.Cond.methodLink "java/lang/String" (1062 : Nat) ({ cls := "jdk/internal/util/Preconditions", name := "checkFromToIndex", desc := "(IIILjava/util/function/BiFunction;)I" } : Jvm.MethodName)).before a0 Z = true := hw _ (List.mem_of_getElem? (i := 147) rfl)
theorem w148 {a0 : Array Value} {Z : State} (hw : Hw a0 Z) : (Jvm.Cond.static ({ cls := "jdk/internal/util/Preconditions", name := "checkFromToIndex", desc := "(IIILjava/util/function/BiFunction;)I" } : Jvm.MethodName)).before a0 Z = true := hw _ (List.mem_of_getElem? (i := 148) rfl)
theorem w149 {a0 : Array Value} {Z : State} (hw : Hw a0 Z) : (Jvm.Cond.code ({ cls := "jdk/internal/util/Preconditions", name := "checkFromToIndex", desc := "(IIILjava/util/function/BiFunction;)I" } : Jvm.MethodName) jdk_41_method_12_code (4 : Nat) (Option.some Jvm.ClassFile.FieldType.int)).before a0 Z = true := hw _ (List.mem_of_getElem? (i := 149) rfl)
theorem w150 {a0 : Array Value} {Z : State} (hw : Hw a0 Z) : (Jvm.Cond.methodLink "java/lang/String" (685 : Nat) ({ cls := "java/lang/StringLatin1", name := "newString", desc := "([BII)Ljava/lang/String;" } : Jvm.MethodName)).before a0 Z = true := hw _ (List.mem_of_getElem? (i := 150) rfl)
theorem w151 {a0 : Array Value} {Z : State} (hw : Hw a0 Z) : (Jvm.Cond.static ({ cls := "java/lang/StringLatin1", name := "newString", desc := "([BII)Ljava/lang/String;" } : Jvm.MethodName)).before a0 Z = true := hw _ (List.mem_of_getElem? (i := 151) rfl)
theorem w152 {a0 : Array Value} {Z : State} (hw : Hw a0 Z) : (Jvm.Cond.code ({ cls := "java/lang/StringLatin1", name := "newString", desc := "([BII)Ljava/lang/String;" } : Jvm.MethodName) jdk_43_method_47_code (3 : Nat) (Option.some (Jvm.ClassFile.FieldType.object "java/lang/String"))).before a0 Z = true := hw _ (List.mem_of_getElem? (i := 152) rfl)
theorem w153 {a0 : Array Value} {Z : State} (hw : Hw a0 Z) : (Jvm.Cond.classLink "java/lang/StringLatin1" (1 : Nat) "java/lang/String").before a0 Z = true := hw _ (List.mem_of_getElem? (i := 153) rfl)
theorem w154 {a0 : Array Value} {Z : State} (hw : Hw a0 Z) : (Jvm.Cond.methodLink "java/lang/StringLatin1" (232 : Nat) ({ cls := "java/util/Arrays", name := "copyOfRange", desc := "([BII)[B" } : Jvm.MethodName)).before a0 Z = true := hw _ (List.mem_of_getElem? (i := 154) rfl)
theorem w155 {a0 : Array Value} {Z : State} (hw : Hw a0 Z) : (Jvm.Cond.static ({ cls := "java/util/Arrays", name := "copyOfRange", desc := "([BII)[B" } : Jvm.MethodName)).before a0 Z = true := hw _ (List.mem_of_getElem? (i := 155) rfl)
theorem w156 {a0 : Array Value} {Z : State} (hw : Hw a0 Z) : (Jvm.Cond.initialized "java/util/Arrays").before a0 Z = true := hw _ (List.mem_of_getElem? (i := 156) rfl)
theorem w157 {a0 : Array Value} {Z : State} (hw : Hw a0 Z) : (Jvm.Cond.code ({ cls := "java/util/Arrays", name := "copyOfRange", desc := "([BII)[B" } : Jvm.MethodName) jdk_65_method_132_code (3 : Nat) (Option.some (Jvm.ClassFile.FieldType.array Jvm.ClassFile.FieldType.byte))).before a0 Z = true := hw _ (List.mem_of_getElem? (i := 157) rfl)
theorem w158 {a0 : Array Value} {Z : State} (hw : Hw a0 Z) : (Jvm.Cond.methodLink "java/util/Arrays" (339 : Nat) ({ cls := "java/util/Arrays", name := "copyOfRangeByte", desc := "([BII)[B" } : Jvm.MethodName)).before a0 Z = true := hw _ (List.mem_of_getElem? (i := 158) rfl)
theorem w159 {a0 : Array Value} {Z : State} (hw : Hw a0 Z) : (Jvm.Cond.static ({ cls := "java/util/Arrays", name := "copyOfRangeByte", desc := "([BII)[B" } : Jvm.MethodName)).before a0 Z = true := hw _ (List.mem_of_getElem? (i := 159) rfl)
theorem w160 {a0 : Array Value} {Z : State} (hw : Hw a0 Z) : (Jvm.Cond.code ({ cls := "java/util/Arrays", name := "copyOfRangeByte", desc := "([BII)[B" } : Jvm.MethodName) jdk_65_method_133_code (5 : Nat) (Option.some (Jvm.ClassFile.FieldType.array Jvm.ClassFile.FieldType.byte))).before a0 Z = true := hw _ (List.mem_of_getElem? (i := 160) rfl)
theorem w161 {a0 : Array Value} {Z : State} (hw : Hw a0 Z) : (Jvm.Cond.methodLink "java/util/Arrays" (343 : Nat) ({ cls := "java/util/Arrays", name := "checkLength", desc := "(II)V" } : Jvm.MethodName)).before a0 Z = true := hw _ (List.mem_of_getElem? (i := 161) rfl)
theorem w162 {a0 : Array Value} {Z : State} (hw : Hw a0 Z) : (Jvm.Cond.static ({ cls := "java/util/Arrays", name := "checkLength", desc := "(II)V" } : Jvm.MethodName)).before a0 Z = true := hw _ (List.mem_of_getElem? (i := 162) rfl)
theorem w163 {a0 : Array Value} {Z : State} (hw : Hw a0 Z) : (Jvm.Cond.code ({ cls := "java/util/Arrays", name := "checkLength", desc := "(II)V" } : Jvm.MethodName) jdk_65_method_131_code (2 : Nat) (Option.none : Option Jvm.ClassFile.FieldType)).before a0 Z = true := hw _ (List.mem_of_getElem? (i := 163) rfl)
theorem w164 {a0 : Array Value} {Z : State} (hw : Hw a0 Z) : (Jvm.Cond.methodLink "java/util/Arrays" (304 : Nat) ({ cls := "java/lang/Math", name := "min", desc := "(II)I" } : Jvm.MethodName)).before a0 Z = true := hw _ (List.mem_of_getElem? (i := 164) rfl)
theorem w165 {a0 : Array Value} {Z : State} (hw : Hw a0 Z) : (Jvm.Cond.methodLink "java/util/Arrays" (150 : Nat) ({ cls := "java/lang/System", name := "arraycopy", desc := "(Ljava/lang/Object;ILjava/lang/Object;II)V" } : Jvm.MethodName)).before a0 Z = true := hw _ (List.mem_of_getElem? (i := 165) rfl)
theorem w166 {a0 : Array Value} {Z : State} (hw : Hw a0 Z) : (Jvm.Cond.static ({ cls := "java/lang/System", name := "arraycopy", desc := "(Ljava/lang/Object;ILjava/lang/Object;II)V" } : Jvm.MethodName)).before a0 Z = true := hw _ (List.mem_of_getElem? (i := 166) rfl)
theorem w167 {a0 : Array Value} {Z : State} (hw : Hw a0 Z) : (Jvm.Cond.initialized "java/lang/System").before a0 Z = true := hw _ (List.mem_of_getElem? (i := 167) rfl)
theorem w168 {a0 : Array Value} {Z : State} (hw : Hw a0 Z) : (Jvm.Cond.native ({ cls := "java/lang/System", name := "arraycopy", desc := "(Ljava/lang/Object;ILjava/lang/Object;II)V" } : Jvm.MethodName)).before a0 Z = true := hw _ (List.mem_of_getElem? (i := 168) rfl)
theorem w169 {a0 : Array Value} {Z : State} (hw : Hw a0 Z) : (Jvm.Cond.methodLink "java/lang/StringLatin1" (112 : Nat) ({ cls := "java/lang/String", name := "<init>", desc := "([BB)V" } : Jvm.MethodName)).before a0 Z = true := hw _ (List.mem_of_getElem? (i := 169) rfl)
theorem w170 {a0 : Array Value} {Z : State} (hw : Hw a0 Z) : (Jvm.Cond.instanceMethod ({ cls := "java/lang/String", name := "<init>", desc := "([BB)V" } : Jvm.MethodName)).before a0 Z = true := hw _ (List.mem_of_getElem? (i := 170) rfl)
theorem w171 {a0 : Array Value} {Z : State} (hw : Hw a0 Z) : (Jvm.Cond.code ({ cls := "java/lang/String", name := "<init>", desc := "([BB)V" } : Jvm.MethodName) jdk_42_method_151_code (3 : Nat) (Option.none : Option Jvm.ClassFile.FieldType)).before a0 Z = true := hw _ (List.mem_of_getElem? (i := 171) rfl)
theorem w172 {a0 : Array Value} {Z : State} (hw : Hw a0 Z) : (Jvm.Cond.methodLink "com/example/elsewhere/elsewhere/SubfieldWithoutSeparatorPinLaw" (40 : Nat) ({ cls := "java/lang/String", name := "length", desc := "()I" } : Jvm.MethodName)).before a0 Z = true := hw _ (List.mem_of_getElem? (i := 172) rfl)
theorem w173 {a0 : Array Value} {Z : State} (hw : Hw a0 Z) : (Jvm.Cond.methodLink "com/example/elsewhere/elsewhere/SubfieldWithoutSeparatorPinLaw" (44 : Nat) ({ cls := "com/example/elsewhere/elsewhere/SubfieldWithoutSeparatorPinLaw", name := "prefixEq", desc := "(Ljava/lang/String;[CI)Z" } : Jvm.MethodName)).before a0 Z = true := hw _ (List.mem_of_getElem? (i := 173) rfl)
theorem w174 {a0 : Array Value} {Z : State} (hw : Hw a0 Z) : (Jvm.Cond.static ({ cls := "com/example/elsewhere/elsewhere/SubfieldWithoutSeparatorPinLaw", name := "prefixEq", desc := "(Ljava/lang/String;[CI)Z" } : Jvm.MethodName)).before a0 Z = true := hw _ (List.mem_of_getElem? (i := 174) rfl)
theorem w175 {a0 : Array Value} {Z : State} (hw : Hw a0 Z) : (Jvm.Cond.code ({ cls := "com/example/elsewhere/elsewhere/SubfieldWithoutSeparatorPinLaw", name := "prefixEq", desc := "(Ljava/lang/String;[CI)Z" } : Jvm.MethodName) method_5_code (3 : Nat) (Option.some Jvm.ClassFile.FieldType.boolean)).before a0 Z = true := hw _ (List.mem_of_getElem? (i := 175) rfl)
theorem w176 {a0 : Array Value} {Z : State} (hw : Hw a0 Z) : (Jvm.Cond.methodLink "com/example/elsewhere/elsewhere/SubfieldWithoutSeparatorPinLaw" (13 : Nat) ({ cls := "java/lang/String", name := "charAt", desc := "(I)C" } : Jvm.MethodName)).before a0 Z = true := hw _ (List.mem_of_getElem? (i := 176) rfl)
theorem w177 {a0 : Array Value} {Z : State} (hw : Hw a0 Z) : (Jvm.Cond.methodLink "java/lang/StringUTF16" (119 : Nat) ({ cls := "java/lang/StringUTF16", name := "toBytes", desc := "([CII)[B" } : Jvm.MethodName)).before a0 Z = true := hw _ (List.mem_of_getElem? (i := 177) rfl)
theorem w178 {a0 : Array Value} {Z : State} (hw : Hw a0 Z) : (Jvm.Cond.static ({ cls := "java/lang/StringUTF16", name := "toBytes", desc := "([CII)[B" } : Jvm.MethodName)).before a0 Z = true := hw _ (List.mem_of_getElem? (i := 178) rfl)
theorem w179 {a0 : Array Value} {Z : State} (hw : Hw a0 Z) : (Jvm.Cond.code ({ cls := "java/lang/StringUTF16", name := "toBytes", desc := "([CII)[B" } : Jvm.MethodName) jdk_52_method_14_code (5 : Nat) (Option.some (Jvm.ClassFile.FieldType.array Jvm.ClassFile.FieldType.byte))).before a0 Z = true := hw _ (List.mem_of_getElem? (i := 179) rfl)
theorem w180 {a0 : Array Value} {Z : State} (hw : Hw a0 Z) : (Jvm.Cond.methodLink "java/lang/StringUTF16" (107 : Nat) ({ cls := "java/lang/StringUTF16", name := "newBytesFor", desc := "(I)[B" } : Jvm.MethodName)).before a0 Z = true := hw _ (List.mem_of_getElem? (i := 180) rfl)
theorem w181 {a0 : Array Value} {Z : State} (hw : Hw a0 Z) : (Jvm.Cond.static ({ cls := "java/lang/StringUTF16", name := "newBytesFor", desc := "(I)[B" } : Jvm.MethodName)).before a0 Z = true := hw _ (List.mem_of_getElem? (i := 181) rfl)
theorem w182 {a0 : Array Value} {Z : State} (hw : Hw a0 Z) : (Jvm.Cond.code ({ cls := "java/lang/StringUTF16", name := "newBytesFor", desc := "(I)[B" } : Jvm.MethodName) jdk_52_method_2_code (1 : Nat) (Option.some (Jvm.ClassFile.FieldType.array Jvm.ClassFile.FieldType.byte))).before a0 Z = true := hw _ (List.mem_of_getElem? (i := 182) rfl)
theorem w183 {a0 : Array Value} {Z : State} (hw : Hw a0 Z) : (Jvm.Cond.methodLink "java/lang/StringUTF16" (11 : Nat) ({ cls := "java/lang/StringUTF16", name := "newBytesLength", desc := "(I)I" } : Jvm.MethodName)).before a0 Z = true := hw _ (List.mem_of_getElem? (i := 183) rfl)
theorem w184 {a0 : Array Value} {Z : State} (hw : Hw a0 Z) : (Jvm.Cond.static ({ cls := "java/lang/StringUTF16", name := "newBytesLength", desc := "(I)I" } : Jvm.MethodName)).before a0 Z = true := hw _ (List.mem_of_getElem? (i := 184) rfl)
theorem w185 {a0 : Array Value} {Z : State} (hw : Hw a0 Z) : (Jvm.Cond.code ({ cls := "java/lang/StringUTF16", name := "newBytesLength", desc := "(I)I" } : Jvm.MethodName) jdk_52_method_3_code (1 : Nat) (Option.some Jvm.ClassFile.FieldType.int)).before a0 Z = true := hw _ (List.mem_of_getElem? (i := 185) rfl)
theorem w186 {a0 : Array Value} {Z : State} (hw : Hw a0 Z) : (Jvm.Cond.constant "java/lang/StringUTF16" (20 : Nat) (1073741823 : Int32)).before a0 Z = true := hw _ (List.mem_of_getElem? (i := 186) rfl)
theorem w187 {a0 : Array Value} {Z : State} (hw : Hw a0 Z) : (Jvm.Cond.methodLink "java/lang/StringUTF16" (111 : Nat) ({ cls := "java/lang/StringUTF16", name := "putChar", desc := "([BII)V" } : Jvm.MethodName)).before a0 Z = true := hw _ (List.mem_of_getElem? (i := 187) rfl)
theorem w188 {a0 : Array Value} {Z : State} (hw : Hw a0 Z) : (Jvm.Cond.static ({ cls := "java/lang/StringUTF16", name := "putChar", desc := "([BII)V" } : Jvm.MethodName)).before a0 Z = true := hw _ (List.mem_of_getElem? (i := 188) rfl)
theorem w189 {a0 : Array Value} {Z : State} (hw : Hw a0 Z) : (Jvm.Cond.code ({ cls := "java/lang/StringUTF16", name := "putChar", desc := "([BII)V" } : Jvm.MethodName) jdk_52_method_4_code (3 : Nat) (Option.none : Option Jvm.ClassFile.FieldType)).before a0 Z = true := hw _ (List.mem_of_getElem? (i := 189) rfl)
theorem w190 {a0 : Array Value} {Z : State} (hw : Hw a0 Z) : (Jvm.Cond.fieldLink "java/lang/StringUTF16" (44 : Nat) "java/lang/StringUTF16" "$assertionsDisabled" "Z").before a0 Z = true := hw _ (List.mem_of_getElem? (i := 190) rfl)
theorem w191 {a0 : Array Value} {Z : State} (hw : Hw a0 Z) : (Jvm.Cond.fieldLink "java/lang/StringUTF16" (59 : Nat) "java/lang/StringUTF16" "HI_BYTE_SHIFT" "I").before a0 Z = true := hw _ (List.mem_of_getElem? (i := 191) rfl)
theorem w192 {a0 : Array Value} {Z : State} (hw : Hw a0 Z) : (Jvm.Cond.fieldLink "java/lang/StringUTF16" (63 : Nat) "java/lang/StringUTF16" "LO_BYTE_SHIFT" "I").before a0 Z = true := hw _ (List.mem_of_getElem? (i := 192) rfl)
theorem w193 {a0 : Array Value} {Z : State} (hw : Hw a0 Z) : (Jvm.Cond.methodLink "java/lang/StringUTF16" (71 : Nat) ({ cls := "java/lang/StringUTF16", name := "getChar", desc := "([BI)C" } : Jvm.MethodName)).before a0 Z = true := hw _ (List.mem_of_getElem? (i := 193) rfl)
theorem w194 {a0 : Array Value} {Z : State} (hw : Hw a0 Z) : (Jvm.Cond.static ({ cls := "java/lang/StringUTF16", name := "getChar", desc := "([BI)C" } : Jvm.MethodName)).before a0 Z = true := hw _ (List.mem_of_getElem? (i := 194) rfl)
theorem w195 {a0 : Array Value} {Z : State} (hw : Hw a0 Z) : (Jvm.Cond.code ({ cls := "java/lang/StringUTF16", name := "getChar", desc := "([BI)C" } : Jvm.MethodName) jdk_52_method_5_code (2 : Nat) (Option.some Jvm.ClassFile.FieldType.char)).before a0 Z = true := hw _ (List.mem_of_getElem? (i := 195) rfl)
theorem w196 {a0 : Array Value} {Z : State} (hw : Hw a0 Z) : (Jvm.Cond.methodLink "java/lang/String" (498 : Nat) ({ cls := "java/lang/StringUTF16", name := "charAt", desc := "([BI)C" } : Jvm.MethodName)).before a0 Z = true := hw _ (List.mem_of_getElem? (i := 196) rfl)
theorem w197 {a0 : Array Value} {Z : State} (hw : Hw a0 Z) : (Jvm.Cond.static ({ cls := "java/lang/StringUTF16", name := "charAt", desc := "([BI)C" } : Jvm.MethodName)).before a0 Z = true := hw _ (List.mem_of_getElem? (i := 197) rfl)
theorem w198 {a0 : Array Value} {Z : State} (hw : Hw a0 Z) : (Jvm.Cond.code ({ cls := "java/lang/StringUTF16", name := "charAt", desc := "([BI)C" } : Jvm.MethodName) jdk_52_method_83_code (2 : Nat) (Option.some Jvm.ClassFile.FieldType.char)).before a0 Z = true := hw _ (List.mem_of_getElem? (i := 198) rfl)
theorem w199 {a0 : Array Value} {Z : State} (hw : Hw a0 Z) : (Jvm.Cond.methodLink "java/lang/StringUTF16" (67 : Nat) ({ cls := "java/lang/StringUTF16", name := "checkIndex", desc := "(I[B)V" } : Jvm.MethodName)).before a0 Z = true := hw _ (List.mem_of_getElem? (i := 199) rfl)
theorem w200 {a0 : Array Value} {Z : State} (hw : Hw a0 Z) : (Jvm.Cond.static ({ cls := "java/lang/StringUTF16", name := "checkIndex", desc := "(I[B)V" } : Jvm.MethodName)).before a0 Z = true := hw _ (List.mem_of_getElem? (i := 200) rfl)
theorem w201 {a0 : Array Value} {Z : State} (hw : Hw a0 Z) : (Jvm.Cond.code ({ cls := "java/lang/StringUTF16", name := "checkIndex", desc := "(I[B)V" } : Jvm.MethodName) jdk_52_method_91_code (2 : Nat) (Option.none : Option Jvm.ClassFile.FieldType)).before a0 Z = true := hw _ (List.mem_of_getElem? (i := 201) rfl)
theorem w202 {a0 : Array Value} {Z : State} (hw : Hw a0 Z) : (Jvm.Cond.methodLink "java/lang/StringUTF16" (48 : Nat) ({ cls := "java/lang/StringUTF16", name := "length", desc := "([B)I" } : Jvm.MethodName)).before a0 Z = true := hw _ (List.mem_of_getElem? (i := 202) rfl)
theorem w203 {a0 : Array Value} {Z : State} (hw : Hw a0 Z) : (Jvm.Cond.static ({ cls := "java/lang/StringUTF16", name := "length", desc := "([B)I" } : Jvm.MethodName)).before a0 Z = true := hw _ (List.mem_of_getElem? (i := 203) rfl)
theorem w204 {a0 : Array Value} {Z : State} (hw : Hw a0 Z) : (Jvm.Cond.code ({ cls := "java/lang/StringUTF16", name := "length", desc := "([B)I" } : Jvm.MethodName) jdk_52_method_6_code (1 : Nat) (Option.some Jvm.ClassFile.FieldType.int)).before a0 Z = true := hw _ (List.mem_of_getElem? (i := 204) rfl)
theorem w205 {a0 : Array Value} {Z : State} (hw : Hw a0 Z) : (Jvm.Cond.methodLink "java/lang/StringUTF16" (414 : Nat) ({ cls := "java/lang/String", name := "checkIndex", desc := "(II)V" } : Jvm.MethodName)).before a0 Z = true := hw _ (List.mem_of_getElem? (i := 205) rfl)
theorem w206 {a0 : Array Value} {Z : State} (hw : Hw a0 Z) : (Jvm.Cond.stringLink "java/lang/StringLatin1" (151 : Nat) "").before a0 Z = true := hw _ (List.mem_of_getElem? (i := 206) rfl)
theorem w207 {a0 : Array Value} {Z : State} (hw : Hw a0 Z) : (Jvm.Cond.methodLink "java/lang/String" (689 : Nat) ({ cls := "java/lang/StringUTF16", name := "newString", desc := "([BII)Ljava/lang/String;" } : Jvm.MethodName)).before a0 Z = true := hw _ (List.mem_of_getElem? (i := 207) rfl)
theorem w208 {a0 : Array Value} {Z : State} (hw : Hw a0 Z) : (Jvm.Cond.static ({ cls := "java/lang/StringUTF16", name := "newString", desc := "([BII)Ljava/lang/String;" } : Jvm.MethodName)).before a0 Z = true := hw _ (List.mem_of_getElem? (i := 208) rfl)
theorem w209 {a0 : Array Value} {Z : State} (hw : Hw a0 Z) : (Jvm.Cond.code ({ cls := "java/lang/StringUTF16", name := "newString", desc := "([BII)Ljava/lang/String;" } : Jvm.MethodName) jdk_52_method_69_code (5 : Nat) (Option.some (Jvm.ClassFile.FieldType.object "java/lang/String"))).before a0 Z = true := hw _ (List.mem_of_getElem? (i := 209) rfl)
theorem w210 {a0 : Array Value} {Z : State} (hw : Hw a0 Z) : (Jvm.Cond.fieldLink "java/lang/StringUTF16" (251 : Nat) "java/lang/String" "COMPACT_STRINGS" "Z").before a0 Z = true := hw _ (List.mem_of_getElem? (i := 210) rfl)
theorem w211 {a0 : Array Value} {Z : State} (hw : Hw a0 Z) : (Jvm.Cond.methodLink "java/lang/StringUTF16" (257 : Nat) ({ cls := "java/lang/StringUTF16", name := "compress", desc := "([BII)[B" } : Jvm.MethodName)).before a0 Z = true := hw _ (List.mem_of_getElem? (i := 211) rfl)
theorem w212 {a0 : Array Value} {Z : State} (hw : Hw a0 Z) : (Jvm.Cond.static ({ cls := "java/lang/StringUTF16", name := "compress", desc := "([BII)[B" } : Jvm.MethodName)).before a0 Z = true := hw _ (List.mem_of_getElem? (i := 212) rfl)
theorem w213 {a0 : Array Value} {Z : State} (hw : Hw a0 Z) : (Jvm.Cond.code ({ cls := "java/lang/StringUTF16", name := "compress", desc := "([BII)[B" } : Jvm.MethodName) jdk_52_method_17_code (6 : Nat) (Option.some (Jvm.ClassFile.FieldType.array Jvm.ClassFile.FieldType.byte))).before a0 Z = true := hw _ (List.mem_of_getElem? (i := 213) rfl)
theorem w214 {a0 : Array Value} {Z : State} (hw : Hw a0 Z) : (Jvm.Cond.methodLink "java/lang/StringUTF16" (123 : Nat) ({ cls := "java/lang/StringUTF16", name := "compress", desc := "([BI[BII)I" } : Jvm.MethodName)).before a0 Z = true := hw _ (List.mem_of_getElem? (i := 214) rfl)
theorem w215 {a0 : Array Value} {Z : State} (hw : Hw a0 Z) : (Jvm.Cond.static ({ cls := "java/lang/StringUTF16", name := "compress", desc := "([BI[BII)I" } : Jvm.MethodName)).before a0 Z = true := hw _ (List.mem_of_getElem? (i := 215) rfl)
theorem w216 {a0 : Array Value} {Z : State} (hw : Hw a0 Z) : (Jvm.Cond.code ({ cls := "java/lang/StringUTF16", name := "compress", desc := "([BI[BII)I" } : Jvm.MethodName) jdk_52_method_22_code (7 : Nat) (Option.some Jvm.ClassFile.FieldType.int)).before a0 Z = true := hw _ (List.mem_of_getElem? (i := 216) rfl)
theorem w217 {a0 : Array Value} {Z : State} (hw : Hw a0 Z) : (Jvm.Cond.methodLink "java/lang/StringUTF16" (173 : Nat) ({ cls := "java/lang/StringUTF16", name := "checkBoundsOffCount", desc := "(II[B)V" } : Jvm.MethodName)).before a0 Z = true := hw _ (List.mem_of_getElem? (i := 217) rfl)
theorem w218 {a0 : Array Value} {Z : State} (hw : Hw a0 Z) : (Jvm.Cond.static ({ cls := "java/lang/StringUTF16", name := "checkBoundsOffCount", desc := "(II[B)V" } : Jvm.MethodName)).before a0 Z = true := hw _ (List.mem_of_getElem? (i := 218) rfl)
theorem w219 {a0 : Array Value} {Z : State} (hw : Hw a0 Z) : (Jvm.Cond.code ({ cls := "java/lang/StringUTF16", name := "checkBoundsOffCount", desc := "(II[B)V" } : Jvm.MethodName) jdk_52_method_94_code (3 : Nat) (Option.none : Option Jvm.ClassFile.FieldType)).before a0 Z = true := hw _ (List.mem_of_getElem? (i := 219) rfl)
theorem w220 {a0 : Array Value} {Z : State} (hw : Hw a0 Z) : (Jvm.Cond.methodLink "java/lang/StringUTF16" (419 : Nat) ({ cls := "java/lang/String", name := "checkBoundsOffCount", desc := "(III)I" } : Jvm.MethodName)).before a0 Z = true := hw _ (List.mem_of_getElem? (i := 220) rfl)
theorem w221 {a0 : Array Value} {Z : State} (hw : Hw a0 Z) : (Jvm.Cond.static ({ cls := "java/lang/String", name := "checkBoundsOffCount", desc := "(III)I" } : Jvm.MethodName)).before a0 Z = true := hw _ (List.mem_of_getElem? (i := 221) rfl)
theorem w222 {a0 : Array Value} {Z : State} (hw : Hw a0 Z) : (Jvm.Cond.code ({ cls := "java/lang/String", name := "checkBoundsOffCount", desc := "(III)I" } : Jvm.MethodName) jdk_42_method_157_code (3 : Nat) (Option.some Jvm.ClassFile.FieldType.int)).before a0 Z = true := hw _ (List.mem_of_getElem? (i := 222) rfl)
theorem w223 {a0 : Array Value} {Z : State} (hw : Hw a0 Z) : (Jvm.Cond.methodLink "java/lang/String" (1065 : Nat) ({ cls := "jdk/internal/util/Preconditions", name := "checkFromIndexSize", desc := "(IIILjava/util/function/BiFunction;)I" } : Jvm.MethodName)).before a0 Z = true := hw _ (List.mem_of_getElem? (i := 223) rfl)
theorem w224 {a0 : Array Value} {Z : State} (hw : Hw a0 Z) : (Jvm.Cond.static ({ cls := "jdk/internal/util/Preconditions", name := "checkFromIndexSize", desc := "(IIILjava/util/function/BiFunction;)I" } : Jvm.MethodName)).before a0 Z = true := hw _ (List.mem_of_getElem? (i := 224) rfl)
theorem w225 {a0 : Array Value} {Z : State} (hw : Hw a0 Z) : (Jvm.Cond.code ({ cls := "jdk/internal/util/Preconditions", name := "checkFromIndexSize", desc := "(IIILjava/util/function/BiFunction;)I" } : Jvm.MethodName) jdk_41_method_13_code (4 : Nat) (Option.some Jvm.ClassFile.FieldType.int)).before a0 Z = true := hw _ (List.mem_of_getElem? (i := 225) rfl)
theorem w226 {a0 : Array Value} {Z : State} (hw : Hw a0 Z) : (Jvm.Cond.methodLink "java/lang/StringUTF16" (126 : Nat) ({ cls := "java/util/Arrays", name := "copyOfRange", desc := "([BII)[B" } : Jvm.MethodName)).before a0 Z = true := hw _ (List.mem_of_getElem? (i := 226) rfl)
theorem w227 {a0 : Array Value} {Z : State} (hw : Hw a0 Z) : (Jvm.Cond.methodLink "java/lang/StringUTF16" (259 : Nat) ({ cls := "java/lang/StringUTF16", name := "coderFromArrayLen", desc := "([BI)B" } : Jvm.MethodName)).before a0 Z = true := hw _ (List.mem_of_getElem? (i := 227) rfl)
theorem w228 {a0 : Array Value} {Z : State} (hw : Hw a0 Z) : (Jvm.Cond.classLink "java/lang/StringUTF16" (3 : Nat) "java/lang/String").before a0 Z = true := hw _ (List.mem_of_getElem? (i := 228) rfl)
theorem w229 {a0 : Array Value} {Z : State} (hw : Hw a0 Z) : (Jvm.Cond.methodLink "java/lang/StringUTF16" (263 : Nat) ({ cls := "java/lang/String", name := "<init>", desc := "([BB)V" } : Jvm.MethodName)).before a0 Z = true := hw _ (List.mem_of_getElem? (i := 229) rfl)
theorem e0_0 : decode jdk_52_method_21_code 0 = .ok (.iconst 0, 1) := by decide +kernel
theorem e0_1 : decode jdk_52_method_21_code 1 = .ok (.istore 5, 2) := by decide +kernel
theorem e0_3 : decode jdk_52_method_21_code 3 = .ok (.iload 5, 2) := by decide +kernel
theorem e0_5 : decode jdk_52_method_21_code 5 = .ok (.iload 4, 2) := by decide +kernel
theorem e0_7 : decode jdk_52_method_21_code 7 = .ok (.if_icmp .ge 37, 3) := by decide +kernel
theorem e0_10 : decode jdk_52_method_21_code 10 = .ok (.aload_n 0, 1) := by decide +kernel
theorem e0_11 : decode jdk_52_method_21_code 11 = .ok (.iload_n 1, 1) := by decide +kernel
theorem e0_12 : decode jdk_52_method_21_code 12 = .ok (.caload, 1) := by decide +kernel
theorem e0_13 : decode jdk_52_method_21_code 13 = .ok (.istore 6, 2) := by decide +kernel
theorem e0_15 : decode jdk_52_method_21_code 15 = .ok (.iload 6, 2) := by decide +kernel
theorem e0_17 : decode jdk_52_method_21_code 17 = .ok (.sipush 255, 3) := by decide +kernel
theorem e0_20 : decode jdk_52_method_21_code 20 = .ok (.if_icmp .le 6, 3) := by decide +kernel
theorem e0_23 : decode jdk_52_method_21_code 23 = .ok (.iload 5, 2) := by decide +kernel
theorem e0_25 : decode jdk_52_method_21_code 25 = .ok (.ireturn, 1) := by decide +kernel
theorem e0_26 : decode jdk_52_method_21_code 26 = .ok (.aload_n 2, 1) := by decide +kernel
theorem e0_27 : decode jdk_52_method_21_code 27 = .ok (.iload_n 3, 1) := by decide +kernel
theorem e0_28 : decode jdk_52_method_21_code 28 = .ok (.iload 6, 2) := by decide +kernel
theorem e0_30 : decode jdk_52_method_21_code 30 = .ok (.i2b, 1) := by decide +kernel
theorem e0_31 : decode jdk_52_method_21_code 31 = .ok (.bastore, 1) := by decide +kernel
theorem e0_32 : decode jdk_52_method_21_code 32 = .ok (.iinc 1 1, 3) := by decide +kernel
theorem e0_35 : decode jdk_52_method_21_code 35 = .ok (.iinc 3 1, 3) := by decide +kernel
theorem e0_38 : decode jdk_52_method_21_code 38 = .ok (.iinc 5 1, 3) := by decide +kernel
theorem e0_41 : decode jdk_52_method_21_code 41 = .ok (.goto (-38), 3) := by decide +kernel
theorem e0_44 : decode jdk_52_method_21_code 44 = .ok (.iload 4, 2) := by decide +kernel
theorem e0_46 : decode jdk_52_method_21_code 46 = .ok (.ireturn, 1) := by decide +kernel
theorem e1_0 : decode jdk_52_method_3_code 0 = .ok (.iload_n 0, 1) := by decide +kernel
theorem e1_1 : decode jdk_52_method_3_code 1 = .ok (.ifCond .ge 11, 3) := by decide +kernel
theorem e1_12 : decode jdk_52_method_3_code 12 = .ok (.iload_n 0, 1) := by decide +kernel
theorem e1_13 : decode jdk_52_method_3_code 13 = .ok (.ldc 20, 2) := by decide +kernel
theorem e1_15 : decode jdk_52_method_3_code 15 = .ok (.if_icmp .lt 40, 3) := by decide +kernel
theorem e1_55 : decode jdk_52_method_3_code 55 = .ok (.iload_n 0, 1) := by decide +kernel
theorem e1_56 : decode jdk_52_method_3_code 56 = .ok (.iconst 1, 1) := by decide +kernel
theorem e1_57 : decode jdk_52_method_3_code 57 = .ok (.ishl, 1) := by decide +kernel
theorem e1_58 : decode jdk_52_method_3_code 58 = .ok (.ireturn, 1) := by decide +kernel
theorem e2_0 : decode jdk_52_method_2_code 0 = .ok (.iload_n 0, 1) := by decide +kernel
theorem e2_1 : decode jdk_52_method_2_code 1 = .ok (.invokestatic 11, 3) := by decide +kernel
theorem e2_4 : decode jdk_52_method_2_code 4 = .ok (.newarray .byte, 2) := by decide +kernel
theorem e2_6 : decode jdk_52_method_2_code 6 = .ok (.areturn, 1) := by decide +kernel
theorem e3_0 : decode jdk_52_method_4_code 0 = .ok (.getstatic 44, 3) := by decide +kernel
theorem e3_3 : decode jdk_52_method_4_code 3 = .ok (.ifCond .ne 25, 3) := by decide +kernel
theorem e3_28 : decode jdk_52_method_4_code 28 = .ok (.iload_n 1, 1) := by decide +kernel
theorem e3_29 : decode jdk_52_method_4_code 29 = .ok (.iconst 1, 1) := by decide +kernel
theorem e3_30 : decode jdk_52_method_4_code 30 = .ok (.ishl, 1) := by decide +kernel
theorem e3_31 : decode jdk_52_method_4_code 31 = .ok (.istore_n 1, 1) := by decide +kernel
theorem e3_32 : decode jdk_52_method_4_code 32 = .ok (.aload_n 0, 1) := by decide +kernel
theorem e3_33 : decode jdk_52_method_4_code 33 = .ok (.iload_n 1, 1) := by decide +kernel
theorem e3_34 : decode jdk_52_method_4_code 34 = .ok (.iinc 1 1, 3) := by decide +kernel
theorem e3_37 : decode jdk_52_method_4_code 37 = .ok (.iload_n 2, 1) := by decide +kernel
theorem e3_38 : decode jdk_52_method_4_code 38 = .ok (.getstatic 59, 3) := by decide +kernel
theorem e3_41 : decode jdk_52_method_4_code 41 = .ok (.ishr, 1) := by decide +kernel
theorem e3_42 : decode jdk_52_method_4_code 42 = .ok (.i2b, 1) := by decide +kernel
theorem e3_43 : decode jdk_52_method_4_code 43 = .ok (.bastore, 1) := by decide +kernel
theorem e3_44 : decode jdk_52_method_4_code 44 = .ok (.aload_n 0, 1) := by decide +kernel
theorem e3_45 : decode jdk_52_method_4_code 45 = .ok (.iload_n 1, 1) := by decide +kernel
theorem e3_46 : decode jdk_52_method_4_code 46 = .ok (.iload_n 2, 1) := by decide +kernel
theorem e3_47 : decode jdk_52_method_4_code 47 = .ok (.getstatic 63, 3) := by decide +kernel
theorem e3_50 : decode jdk_52_method_4_code 50 = .ok (.ishr, 1) := by decide +kernel
theorem e3_51 : decode jdk_52_method_4_code 51 = .ok (.i2b, 1) := by decide +kernel
theorem e3_52 : decode jdk_52_method_4_code 52 = .ok (.bastore, 1) := by decide +kernel
theorem e3_53 : decode jdk_52_method_4_code 53 = .ok (.return_, 1) := by decide +kernel
theorem e4_0 : decode jdk_52_method_5_code 0 = .ok (.getstatic 44, 3) := by decide +kernel
theorem e4_3 : decode jdk_52_method_5_code 3 = .ok (.ifCond .ne 25, 3) := by decide +kernel
theorem e4_28 : decode jdk_52_method_5_code 28 = .ok (.iload_n 1, 1) := by decide +kernel
theorem e4_29 : decode jdk_52_method_5_code 29 = .ok (.iconst 1, 1) := by decide +kernel
theorem e4_30 : decode jdk_52_method_5_code 30 = .ok (.ishl, 1) := by decide +kernel
theorem e4_31 : decode jdk_52_method_5_code 31 = .ok (.istore_n 1, 1) := by decide +kernel
theorem e4_32 : decode jdk_52_method_5_code 32 = .ok (.aload_n 0, 1) := by decide +kernel
theorem e4_33 : decode jdk_52_method_5_code 33 = .ok (.iload_n 1, 1) := by decide +kernel
theorem e4_34 : decode jdk_52_method_5_code 34 = .ok (.iinc 1 1, 3) := by decide +kernel
theorem e4_37 : decode jdk_52_method_5_code 37 = .ok (.baload, 1) := by decide +kernel
theorem e4_38 : decode jdk_52_method_5_code 38 = .ok (.sipush 255, 3) := by decide +kernel
theorem e4_41 : decode jdk_52_method_5_code 41 = .ok (.iand, 1) := by decide +kernel
theorem e4_42 : decode jdk_52_method_5_code 42 = .ok (.getstatic 59, 3) := by decide +kernel
theorem e4_45 : decode jdk_52_method_5_code 45 = .ok (.ishl, 1) := by decide +kernel
theorem e4_46 : decode jdk_52_method_5_code 46 = .ok (.aload_n 0, 1) := by decide +kernel
theorem e4_47 : decode jdk_52_method_5_code 47 = .ok (.iload_n 1, 1) := by decide +kernel
theorem e4_48 : decode jdk_52_method_5_code 48 = .ok (.baload, 1) := by decide +kernel
theorem e4_49 : decode jdk_52_method_5_code 49 = .ok (.sipush 255, 3) := by decide +kernel
theorem e4_52 : decode jdk_52_method_5_code 52 = .ok (.iand, 1) := by decide +kernel
theorem e4_53 : decode jdk_52_method_5_code 53 = .ok (.getstatic 63, 3) := by decide +kernel
theorem e4_56 : decode jdk_52_method_5_code 56 = .ok (.ishl, 1) := by decide +kernel
theorem e4_57 : decode jdk_52_method_5_code 57 = .ok (.ior, 1) := by decide +kernel
theorem e4_58 : decode jdk_52_method_5_code 58 = .ok (.i2c, 1) := by decide +kernel
theorem e4_59 : decode jdk_52_method_5_code 59 = .ok (.ireturn, 1) := by decide +kernel
theorem e5_0 : decode jdk_52_method_14_code 0 = .ok (.iload_n 2, 1) := by decide +kernel
theorem e5_1 : decode jdk_52_method_14_code 1 = .ok (.invokestatic 107, 3) := by decide +kernel
theorem e5_4 : decode jdk_52_method_14_code 4 = .ok (.astore_n 3, 1) := by decide +kernel
theorem e5_5 : decode jdk_52_method_14_code 5 = .ok (.iconst 0, 1) := by decide +kernel
theorem e5_6 : decode jdk_52_method_14_code 6 = .ok (.istore 4, 2) := by decide +kernel
theorem e5_8 : decode jdk_52_method_14_code 8 = .ok (.iload 4, 2) := by decide +kernel
theorem e5_10 : decode jdk_52_method_14_code 10 = .ok (.iload_n 2, 1) := by decide +kernel
theorem e5_11 : decode jdk_52_method_14_code 11 = .ok (.if_icmp .ge 21, 3) := by decide +kernel
theorem e5_14 : decode jdk_52_method_14_code 14 = .ok (.aload_n 3, 1) := by decide +kernel
theorem e5_15 : decode jdk_52_method_14_code 15 = .ok (.iload 4, 2) := by decide +kernel
theorem e5_17 : decode jdk_52_method_14_code 17 = .ok (.aload_n 0, 1) := by decide +kernel
theorem e5_18 : decode jdk_52_method_14_code 18 = .ok (.iload_n 1, 1) := by decide +kernel
theorem e5_19 : decode jdk_52_method_14_code 19 = .ok (.caload, 1) := by decide +kernel
theorem e5_20 : decode jdk_52_method_14_code 20 = .ok (.invokestatic 111, 3) := by decide +kernel
theorem e5_23 : decode jdk_52_method_14_code 23 = .ok (.iinc 1 1, 3) := by decide +kernel
theorem e5_26 : decode jdk_52_method_14_code 26 = .ok (.iinc 4 1, 3) := by decide +kernel
theorem e5_29 : decode jdk_52_method_14_code 29 = .ok (.goto (-21), 3) := by decide +kernel
theorem e5_32 : decode jdk_52_method_14_code 32 = .ok (.aload_n 3, 1) := by decide +kernel
theorem e5_33 : decode jdk_52_method_14_code 33 = .ok (.areturn, 1) := by decide +kernel
theorem e6_0 : decode jdk_52_method_16_code 0 = .ok (.iload_n 2, 1) := by decide +kernel
theorem e6_1 : decode jdk_52_method_16_code 1 = .ok (.newarray .byte, 2) := by decide +kernel
theorem e6_3 : decode jdk_52_method_16_code 3 = .ok (.astore_n 3, 1) := by decide +kernel
theorem e6_4 : decode jdk_52_method_16_code 4 = .ok (.aload_n 0, 1) := by decide +kernel
theorem e6_5 : decode jdk_52_method_16_code 5 = .ok (.iload_n 1, 1) := by decide +kernel
theorem e6_6 : decode jdk_52_method_16_code 6 = .ok (.aload_n 3, 1) := by decide +kernel
theorem e6_7 : decode jdk_52_method_16_code 7 = .ok (.iconst 0, 1) := by decide +kernel
theorem e6_8 : decode jdk_52_method_16_code 8 = .ok (.iload_n 2, 1) := by decide +kernel
theorem e6_9 : decode jdk_52_method_16_code 9 = .ok (.invokestatic 115, 3) := by decide +kernel
theorem e6_12 : decode jdk_52_method_16_code 12 = .ok (.istore 4, 2) := by decide +kernel
theorem e6_14 : decode jdk_52_method_16_code 14 = .ok (.iload 4, 2) := by decide +kernel
theorem e6_16 : decode jdk_52_method_16_code 16 = .ok (.iload_n 2, 1) := by decide +kernel
theorem e6_17 : decode jdk_52_method_16_code 17 = .ok (.if_icmp .eq 40, 3) := by decide +kernel
theorem e6_57 : decode jdk_52_method_16_code 57 = .ok (.aload_n 3, 1) := by decide +kernel
theorem e6_58 : decode jdk_52_method_16_code 58 = .ok (.areturn, 1) := by decide +kernel
theorem e6_20 : decode jdk_52_method_16_code 20 = .ok (.aload_n 0, 1) := by decide +kernel
theorem e6_21 : decode jdk_52_method_16_code 21 = .ok (.iload_n 1, 1) := by decide +kernel
theorem e6_22 : decode jdk_52_method_16_code 22 = .ok (.iload_n 2, 1) := by decide +kernel
theorem e6_23 : decode jdk_52_method_16_code 23 = .ok (.invokestatic 119, 3) := by decide +kernel
theorem e6_26 : decode jdk_52_method_16_code 26 = .ok (.astore 5, 2) := by decide +kernel
theorem e6_28 : decode jdk_52_method_16_code 28 = .ok (.aload 5, 2) := by decide +kernel
theorem e6_30 : decode jdk_52_method_16_code 30 = .ok (.iload 4, 2) := by decide +kernel
theorem e6_32 : decode jdk_52_method_16_code 32 = .ok (.invokestatic 71, 3) := by decide +kernel
theorem e6_35 : decode jdk_52_method_16_code 35 = .ok (.sipush 255, 3) := by decide +kernel
theorem e6_38 : decode jdk_52_method_16_code 38 = .ok (.if_icmp .gt 16, 3) := by decide +kernel
theorem e6_54 : decode jdk_52_method_16_code 54 = .ok (.aload 5, 2) := by decide +kernel
theorem e6_56 : decode jdk_52_method_16_code 56 = .ok (.areturn, 1) := by decide +kernel
theorem e7_0 : decode jdk_52_method_15_code 0 = .ok (.iload_n 1, 1) := by decide +kernel
theorem e7_1 : decode jdk_52_method_15_code 1 = .ok (.aload_n 0, 1) := by decide +kernel
theorem e7_2 : decode jdk_52_method_15_code 2 = .ok (.arraylength, 1) := by decide +kernel
theorem e7_3 : decode jdk_52_method_15_code 3 = .ok (.isub, 1) := by decide +kernel
theorem e7_4 : decode jdk_52_method_15_code 4 = .ok (.bipush 31, 2) := by decide +kernel
theorem e7_6 : decode jdk_52_method_15_code 6 = .ok (.iushr, 1) := by decide +kernel
theorem e7_7 : decode jdk_52_method_15_code 7 = .ok (.i2b, 1) := by decide +kernel
theorem e7_8 : decode jdk_52_method_15_code 8 = .ok (.ireturn, 1) := by decide +kernel
theorem e8_0 : decode jdk_42_method_149_code 0 = .ok (.aload_n 0, 1) := by decide +kernel
theorem e8_1 : decode jdk_42_method_149_code 1 = .ok (.invokespecial 1, 3) := by decide +kernel
theorem e8_4 : decode jdk_42_method_149_code 4 = .ok (.iload_n 3, 1) := by decide +kernel
theorem e8_5 : decode jdk_42_method_149_code 5 = .ok (.ifCond .ne 22, 3) := by decide +kernel
theorem e8_8 : decode jdk_42_method_149_code 8 = .ok (.aload_n 0, 1) := by decide +kernel
theorem e8_9 : decode jdk_42_method_149_code 9 = .ok (.ldc 7, 2) := by decide +kernel
theorem e8_11 : decode jdk_42_method_149_code 11 = .ok (.getfield 9, 3) := by decide +kernel
theorem e8_14 : decode jdk_42_method_149_code 14 = .ok (.putfield 9, 3) := by decide +kernel
theorem e8_17 : decode jdk_42_method_149_code 17 = .ok (.aload_n 0, 1) := by decide +kernel
theorem e8_18 : decode jdk_42_method_149_code 18 = .ok (.ldc 7, 2) := by decide +kernel
theorem e8_20 : decode jdk_42_method_149_code 20 = .ok (.getfield 15, 3) := by decide +kernel
theorem e8_23 : decode jdk_42_method_149_code 23 = .ok (.putfield 15, 3) := by decide +kernel
theorem e8_26 : decode jdk_42_method_149_code 26 = .ok (.return_, 1) := by decide +kernel
theorem e8_27 : decode jdk_42_method_149_code 27 = .ok (.getstatic 38, 3) := by decide +kernel
theorem e8_30 : decode jdk_42_method_149_code 30 = .ok (.ifCond .eq 28, 3) := by decide +kernel
theorem e8_33 : decode jdk_42_method_149_code 33 = .ok (.aload_n 1, 1) := by decide +kernel
theorem e8_34 : decode jdk_42_method_149_code 34 = .ok (.iload_n 2, 1) := by decide +kernel
theorem e8_35 : decode jdk_42_method_149_code 35 = .ok (.iload_n 3, 1) := by decide +kernel
theorem e8_36 : decode jdk_42_method_149_code 36 = .ok (.invokestatic 177, 3) := by decide +kernel
theorem e8_39 : decode jdk_42_method_149_code 39 = .ok (.astore 5, 2) := by decide +kernel
theorem e8_41 : decode jdk_42_method_149_code 41 = .ok (.aload_n 0, 1) := by decide +kernel
theorem e8_42 : decode jdk_42_method_149_code 42 = .ok (.aload 5, 2) := by decide +kernel
theorem e8_44 : decode jdk_42_method_149_code 44 = .ok (.iload_n 3, 1) := by decide +kernel
theorem e8_45 : decode jdk_42_method_149_code 45 = .ok (.invokestatic 47, 3) := by decide +kernel
theorem e8_48 : decode jdk_42_method_149_code 48 = .ok (.putfield 15, 3) := by decide +kernel
theorem e8_51 : decode jdk_42_method_149_code 51 = .ok (.aload_n 0, 1) := by decide +kernel
theorem e8_52 : decode jdk_42_method_149_code 52 = .ok (.aload 5, 2) := by decide +kernel
theorem e8_54 : decode jdk_42_method_149_code 54 = .ok (.putfield 9, 3) := by decide +kernel
theorem e8_57 : decode jdk_42_method_149_code 57 = .ok (.return_, 1) := by decide +kernel
theorem e9_0 : decode jdk_42_method_3_code 0 = .ok (.aload_n 0, 1) := by decide +kernel
theorem e9_1 : decode jdk_42_method_3_code 1 = .ok (.aload_n 1, 1) := by decide +kernel
theorem e9_2 : decode jdk_42_method_3_code 2 = .ok (.iconst 0, 1) := by decide +kernel
theorem e9_3 : decode jdk_42_method_3_code 3 = .ok (.aload_n 1, 1) := by decide +kernel
theorem e9_4 : decode jdk_42_method_3_code 4 = .ok (.arraylength, 1) := by decide +kernel
theorem e9_5 : decode jdk_42_method_3_code 5 = .ok (.aconst_null, 1) := by decide +kernel
theorem e9_6 : decode jdk_42_method_3_code 6 = .ok (.invokespecial 27, 3) := by decide +kernel
theorem e9_9 : decode jdk_42_method_3_code 9 = .ok (.return_, 1) := by decide +kernel
theorem e10_0 : decode jdk_42_method_54_code 0 = .ok (.aload_n 0, 1) := by decide +kernel
theorem e10_1 : decode jdk_42_method_54_code 1 = .ok (.getfield 9, 3) := by decide +kernel
theorem e10_4 : decode jdk_42_method_54_code 4 = .ok (.arraylength, 1) := by decide +kernel
theorem e10_5 : decode jdk_42_method_54_code 5 = .ok (.aload_n 0, 1) := by decide +kernel
theorem e10_6 : decode jdk_42_method_54_code 6 = .ok (.invokevirtual 335, 3) := by decide +kernel
theorem e11_0 : decode jdk_42_method_152_code 0 = .ok (.getstatic 38, 3) := by decide +kernel
theorem e11_3 : decode jdk_42_method_152_code 3 = .ok (.ifCond .eq 10, 3) := by decide +kernel
theorem e11_6 : decode jdk_42_method_152_code 6 = .ok (.aload_n 0, 1) := by decide +kernel
theorem e11_7 : decode jdk_42_method_152_code 7 = .ok (.getfield 15, 3) := by decide +kernel
theorem e11_10 : decode jdk_42_method_152_code 10 = .ok (.goto 4, 3) := by decide +kernel
theorem e11_14 : decode jdk_42_method_152_code 14 = .ok (.ireturn, 1) := by decide +kernel
theorem e10_9 : decode jdk_42_method_54_code 9 = .ok (.ishr, 1) := by decide +kernel
theorem e10_10 : decode jdk_42_method_54_code 10 = .ok (.ireturn, 1) := by decide +kernel
theorem e12_0 : decode jdk_43_method_2_code 0 = .ok (.iload_n 1, 1) := by decide +kernel
theorem e12_1 : decode jdk_43_method_2_code 1 = .ok (.aload_n 0, 1) := by decide +kernel
theorem e12_2 : decode jdk_43_method_2_code 2 = .ok (.arraylength, 1) := by decide +kernel
theorem e12_3 : decode jdk_43_method_2_code 3 = .ok (.invokestatic 9, 3) := by decide +kernel
theorem e13_0 : decode jdk_42_method_155_code 0 = .ok (.iload_n 0, 1) := by decide +kernel
theorem e13_1 : decode jdk_42_method_155_code 1 = .ok (.iload_n 1, 1) := by decide +kernel
theorem e13_2 : decode jdk_42_method_155_code 2 = .ok (.getstatic 1053, 3) := by decide +kernel
theorem e13_5 : decode jdk_42_method_155_code 5 = .ok (.invokestatic 1059, 3) := by decide +kernel
theorem e14_0 : decode jdk_41_method_11_code 0 = .ok (.iload_n 0, 1) := by decide +kernel
theorem e14_1 : decode jdk_41_method_11_code 1 = .ok (.ifCond .lt 8, 3) := by decide +kernel
theorem e14_4 : decode jdk_41_method_11_code 4 = .ok (.iload_n 0, 1) := by decide +kernel
theorem e14_5 : decode jdk_41_method_11_code 5 = .ok (.iload_n 1, 1) := by decide +kernel
theorem e14_6 : decode jdk_41_method_11_code 6 = .ok (.if_icmp .lt 10, 3) := by decide +kernel
theorem e14_16 : decode jdk_41_method_11_code 16 = .ok (.iload_n 0, 1) := by decide +kernel
theorem e14_17 : decode jdk_41_method_11_code 17 = .ok (.ireturn, 1) := by decide +kernel
theorem e13_8 : decode jdk_42_method_155_code 8 = .ok (.pop, 1) := by decide +kernel
theorem e13_9 : decode jdk_42_method_155_code 9 = .ok (.return_, 1) := by decide +kernel
theorem e12_6 : decode jdk_43_method_2_code 6 = .ok (.aload_n 0, 1) := by decide +kernel
theorem e12_7 : decode jdk_43_method_2_code 7 = .ok (.iload_n 1, 1) := by decide +kernel
theorem e12_8 : decode jdk_43_method_2_code 8 = .ok (.baload, 1) := by decide +kernel
theorem e12_9 : decode jdk_43_method_2_code 9 = .ok (.sipush 255, 3) := by decide +kernel
theorem e12_12 : decode jdk_43_method_2_code 12 = .ok (.iand, 1) := by decide +kernel
theorem e12_13 : decode jdk_43_method_2_code 13 = .ok (.i2c, 1) := by decide +kernel
theorem e12_14 : decode jdk_43_method_2_code 14 = .ok (.ireturn, 1) := by decide +kernel
theorem e15_0 : decode jdk_52_method_6_code 0 = .ok (.aload_n 0, 1) := by decide +kernel
theorem e15_1 : decode jdk_52_method_6_code 1 = .ok (.arraylength, 1) := by decide +kernel
theorem e15_2 : decode jdk_52_method_6_code 2 = .ok (.iconst 1, 1) := by decide +kernel
theorem e15_3 : decode jdk_52_method_6_code 3 = .ok (.ishr, 1) := by decide +kernel
theorem e15_4 : decode jdk_52_method_6_code 4 = .ok (.ireturn, 1) := by decide +kernel
theorem e16_0 : decode jdk_52_method_91_code 0 = .ok (.iload_n 0, 1) := by decide +kernel
theorem e16_1 : decode jdk_52_method_91_code 1 = .ok (.aload_n 1, 1) := by decide +kernel
theorem e16_2 : decode jdk_52_method_91_code 2 = .ok (.invokestatic 48, 3) := by decide +kernel
theorem e16_5 : decode jdk_52_method_91_code 5 = .ok (.invokestatic 414, 3) := by decide +kernel
theorem e16_8 : decode jdk_52_method_91_code 8 = .ok (.return_, 1) := by decide +kernel
theorem e17_0 : decode jdk_52_method_83_code 0 = .ok (.iload_n 1, 1) := by decide +kernel
theorem e17_1 : decode jdk_52_method_83_code 1 = .ok (.aload_n 0, 1) := by decide +kernel
theorem e17_2 : decode jdk_52_method_83_code 2 = .ok (.invokestatic 67, 3) := by decide +kernel
theorem e17_5 : decode jdk_52_method_83_code 5 = .ok (.aload_n 0, 1) := by decide +kernel
theorem e17_6 : decode jdk_52_method_83_code 6 = .ok (.iload_n 1, 1) := by decide +kernel
theorem e17_7 : decode jdk_52_method_83_code 7 = .ok (.invokestatic 71, 3) := by decide +kernel
theorem e17_10 : decode jdk_52_method_83_code 10 = .ok (.ireturn, 1) := by decide +kernel
theorem e18_0 : decode jdk_42_method_56_code 0 = .ok (.aload_n 0, 1) := by decide +kernel
theorem e18_1 : decode jdk_42_method_56_code 1 = .ok (.invokevirtual 492, 3) := by decide +kernel
theorem e19_0 : decode jdk_42_method_154_code 0 = .ok (.getstatic 38, 3) := by decide +kernel
theorem e19_3 : decode jdk_42_method_154_code 3 = .ok (.ifCond .eq 14, 3) := by decide +kernel
theorem e19_6 : decode jdk_42_method_154_code 6 = .ok (.aload_n 0, 1) := by decide +kernel
theorem e19_7 : decode jdk_42_method_154_code 7 = .ok (.getfield 15, 3) := by decide +kernel
theorem e19_10 : decode jdk_42_method_154_code 10 = .ok (.ifCond .ne 7, 3) := by decide +kernel
theorem e19_13 : decode jdk_42_method_154_code 13 = .ok (.iconst 1, 1) := by decide +kernel
theorem e19_14 : decode jdk_42_method_154_code 14 = .ok (.goto 4, 3) := by decide +kernel
theorem e19_18 : decode jdk_42_method_154_code 18 = .ok (.ireturn, 1) := by decide +kernel
theorem e18_4 : decode jdk_42_method_56_code 4 = .ok (.ifCond .eq 12, 3) := by decide +kernel
theorem e18_7 : decode jdk_42_method_56_code 7 = .ok (.aload_n 0, 1) := by decide +kernel
theorem e18_8 : decode jdk_42_method_56_code 8 = .ok (.getfield 9, 3) := by decide +kernel
theorem e18_11 : decode jdk_42_method_56_code 11 = .ok (.iload_n 1, 1) := by decide +kernel
theorem e18_12 : decode jdk_42_method_56_code 12 = .ok (.invokestatic 495, 3) := by decide +kernel
theorem e18_15 : decode jdk_42_method_56_code 15 = .ok (.ireturn, 1) := by decide +kernel
theorem e19_17 : decode jdk_42_method_154_code 17 = .ok (.iconst 0, 1) := by decide +kernel
theorem e18_16 : decode jdk_42_method_56_code 16 = .ok (.aload_n 0, 1) := by decide +kernel
theorem e18_17 : decode jdk_42_method_56_code 17 = .ok (.getfield 9, 3) := by decide +kernel
theorem e18_20 : decode jdk_42_method_56_code 20 = .ok (.iload_n 1, 1) := by decide +kernel
theorem e18_21 : decode jdk_42_method_56_code 21 = .ok (.invokestatic 498, 3) := by decide +kernel
theorem e18_24 : decode jdk_42_method_56_code 24 = .ok (.ireturn, 1) := by decide +kernel
theorem e20_0 : decode jdk_29_method_69_code 0 = .ok (.iload_n 0, 1) := by decide +kernel
theorem e20_1 : decode jdk_29_method_69_code 1 = .ok (.iload_n 1, 1) := by decide +kernel
theorem e20_2 : decode jdk_29_method_69_code 2 = .ok (.if_icmp .gt 7, 3) := by decide +kernel
theorem e20_9 : decode jdk_29_method_69_code 9 = .ok (.iload_n 1, 1) := by decide +kernel
theorem e20_10 : decode jdk_29_method_69_code 10 = .ok (.ireturn, 1) := by decide +kernel
theorem e20_5 : decode jdk_29_method_69_code 5 = .ok (.iload_n 0, 1) := by decide +kernel
theorem e20_6 : decode jdk_29_method_69_code 6 = .ok (.goto 4, 3) := by decide +kernel
theorem e21_0 : decode jdk_65_method_133_code 0 = .ok (.iload_n 1, 1) := by decide +kernel
theorem e21_1 : decode jdk_65_method_133_code 1 = .ok (.iload_n 2, 1) := by decide +kernel
theorem e21_2 : decode jdk_65_method_133_code 2 = .ok (.invokestatic 343, 3) := by decide +kernel
theorem e22_0 : decode jdk_65_method_131_code 0 = .ok (.iload_n 1, 1) := by decide +kernel
theorem e22_1 : decode jdk_65_method_131_code 1 = .ok (.iload_n 0, 1) := by decide +kernel
theorem e22_2 : decode jdk_65_method_131_code 2 = .ok (.if_icmp .ge 35, 3) := by decide +kernel
theorem e22_37 : decode jdk_65_method_131_code 37 = .ok (.return_, 1) := by decide +kernel
theorem e21_5 : decode jdk_65_method_133_code 5 = .ok (.iload_n 2, 1) := by decide +kernel
theorem e21_6 : decode jdk_65_method_133_code 6 = .ok (.iload_n 1, 1) := by decide +kernel
theorem e21_7 : decode jdk_65_method_133_code 7 = .ok (.isub, 1) := by decide +kernel
theorem e21_8 : decode jdk_65_method_133_code 8 = .ok (.istore_n 3, 1) := by decide +kernel
theorem e21_9 : decode jdk_65_method_133_code 9 = .ok (.iload_n 3, 1) := by decide +kernel
theorem e21_10 : decode jdk_65_method_133_code 10 = .ok (.newarray .byte, 2) := by decide +kernel
theorem e21_12 : decode jdk_65_method_133_code 12 = .ok (.astore 4, 2) := by decide +kernel
theorem e21_14 : decode jdk_65_method_133_code 14 = .ok (.aload_n 0, 1) := by decide +kernel
theorem e21_15 : decode jdk_65_method_133_code 15 = .ok (.iload_n 1, 1) := by decide +kernel
theorem e21_16 : decode jdk_65_method_133_code 16 = .ok (.aload 4, 2) := by decide +kernel
theorem e21_18 : decode jdk_65_method_133_code 18 = .ok (.iconst 0, 1) := by decide +kernel
theorem e21_19 : decode jdk_65_method_133_code 19 = .ok (.aload_n 0, 1) := by decide +kernel
theorem e21_20 : decode jdk_65_method_133_code 20 = .ok (.arraylength, 1) := by decide +kernel
theorem e21_21 : decode jdk_65_method_133_code 21 = .ok (.iload_n 1, 1) := by decide +kernel
theorem e21_22 : decode jdk_65_method_133_code 22 = .ok (.isub, 1) := by decide +kernel
theorem e21_23 : decode jdk_65_method_133_code 23 = .ok (.iload_n 3, 1) := by decide +kernel
theorem e21_24 : decode jdk_65_method_133_code 24 = .ok (.invokestatic 304, 3) := by decide +kernel
theorem e21_27 : decode jdk_65_method_133_code 27 = .ok (.invokestatic 150, 3) := by decide +kernel
theorem e21_30 : decode jdk_65_method_133_code 30 = .ok (.aload 4, 2) := by decide +kernel
theorem e21_32 : decode jdk_65_method_133_code 32 = .ok (.areturn, 1) := by decide +kernel
theorem e23_0 : decode jdk_65_method_132_code 0 = .ok (.iload_n 1, 1) := by decide +kernel
theorem e23_1 : decode jdk_65_method_132_code 1 = .ok (.ifCond .ne 9, 3) := by decide +kernel
theorem e23_4 : decode jdk_65_method_132_code 4 = .ok (.iload_n 2, 1) := by decide +kernel
theorem e23_5 : decode jdk_65_method_132_code 5 = .ok (.aload_n 0, 1) := by decide +kernel
theorem e23_6 : decode jdk_65_method_132_code 6 = .ok (.arraylength, 1) := by decide +kernel
theorem e23_7 : decode jdk_65_method_132_code 7 = .ok (.if_icmp .eq 10, 3) := by decide +kernel
theorem e23_10 : decode jdk_65_method_132_code 10 = .ok (.aload_n 0, 1) := by decide +kernel
theorem e23_11 : decode jdk_65_method_132_code 11 = .ok (.iload_n 1, 1) := by decide +kernel
theorem e23_12 : decode jdk_65_method_132_code 12 = .ok (.iload_n 2, 1) := by decide +kernel
theorem e23_13 : decode jdk_65_method_132_code 13 = .ok (.invokestatic 339, 3) := by decide +kernel
theorem e23_16 : decode jdk_65_method_132_code 16 = .ok (.areturn, 1) := by decide +kernel
theorem e24_0 : decode jdk_43_method_47_code 0 = .ok (.iload_n 2, 1) := by decide +kernel
theorem e24_1 : decode jdk_43_method_47_code 1 = .ok (.ifCond .ne 6, 3) := by decide +kernel
theorem e24_4 : decode jdk_43_method_47_code 4 = .ok (.ldc 151, 2) := by decide +kernel
theorem e24_6 : decode jdk_43_method_47_code 6 = .ok (.areturn, 1) := by decide +kernel
theorem e24_7 : decode jdk_43_method_47_code 7 = .ok (.new 1, 3) := by decide +kernel
theorem e24_10 : decode jdk_43_method_47_code 10 = .ok (.dup, 1) := by decide +kernel
theorem e24_11 : decode jdk_43_method_47_code 11 = .ok (.aload_n 0, 1) := by decide +kernel
theorem e24_12 : decode jdk_43_method_47_code 12 = .ok (.iload_n 1, 1) := by decide +kernel
theorem e24_13 : decode jdk_43_method_47_code 13 = .ok (.iload_n 1, 1) := by decide +kernel
theorem e24_14 : decode jdk_43_method_47_code 14 = .ok (.iload_n 2, 1) := by decide +kernel
theorem e24_15 : decode jdk_43_method_47_code 15 = .ok (.iadd, 1) := by decide +kernel
theorem e24_16 : decode jdk_43_method_47_code 16 = .ok (.invokestatic 232, 3) := by decide +kernel
theorem e24_19 : decode jdk_43_method_47_code 19 = .ok (.iconst 0, 1) := by decide +kernel
theorem e24_20 : decode jdk_43_method_47_code 20 = .ok (.invokespecial 112, 3) := by decide +kernel
theorem e25_0 : decode jdk_42_method_151_code 0 = .ok (.aload_n 0, 1) := by decide +kernel
theorem e25_1 : decode jdk_42_method_151_code 1 = .ok (.invokespecial 1, 3) := by decide +kernel
theorem e25_4 : decode jdk_42_method_151_code 4 = .ok (.aload_n 0, 1) := by decide +kernel
theorem e25_5 : decode jdk_42_method_151_code 5 = .ok (.aload_n 1, 1) := by decide +kernel
theorem e25_6 : decode jdk_42_method_151_code 6 = .ok (.putfield 9, 3) := by decide +kernel
theorem e25_9 : decode jdk_42_method_151_code 9 = .ok (.aload_n 0, 1) := by decide +kernel
theorem e25_10 : decode jdk_42_method_151_code 10 = .ok (.iload_n 2, 1) := by decide +kernel
theorem e25_11 : decode jdk_42_method_151_code 11 = .ok (.putfield 15, 3) := by decide +kernel
theorem e25_14 : decode jdk_42_method_151_code 14 = .ok (.return_, 1) := by decide +kernel
theorem e24_23 : decode jdk_43_method_47_code 23 = .ok (.areturn, 1) := by decide +kernel
theorem e26_0 : decode jdk_52_method_94_code 0 = .ok (.iload_n 0, 1) := by decide +kernel
theorem e26_1 : decode jdk_52_method_94_code 1 = .ok (.iload_n 1, 1) := by decide +kernel
theorem e26_2 : decode jdk_52_method_94_code 2 = .ok (.aload_n 2, 1) := by decide +kernel
theorem e26_3 : decode jdk_52_method_94_code 3 = .ok (.invokestatic 48, 3) := by decide +kernel
theorem e26_6 : decode jdk_52_method_94_code 6 = .ok (.invokestatic 419, 3) := by decide +kernel
theorem e27_0 : decode jdk_42_method_157_code 0 = .ok (.iload_n 0, 1) := by decide +kernel
theorem e27_1 : decode jdk_42_method_157_code 1 = .ok (.iload_n 1, 1) := by decide +kernel
theorem e27_2 : decode jdk_42_method_157_code 2 = .ok (.iload_n 2, 1) := by decide +kernel
theorem e27_3 : decode jdk_42_method_157_code 3 = .ok (.getstatic 1053, 3) := by decide +kernel
theorem e27_6 : decode jdk_42_method_157_code 6 = .ok (.invokestatic 1065, 3) := by decide +kernel
theorem e28_0 : decode jdk_41_method_13_code 0 = .ok (.iload_n 2, 1) := by decide +kernel
theorem e28_1 : decode jdk_41_method_13_code 1 = .ok (.iload_n 0, 1) := by decide +kernel
theorem e28_2 : decode jdk_41_method_13_code 2 = .ok (.ior, 1) := by decide +kernel
theorem e28_3 : decode jdk_41_method_13_code 3 = .ok (.iload_n 1, 1) := by decide +kernel
theorem e28_4 : decode jdk_41_method_13_code 4 = .ok (.ior, 1) := by decide +kernel
theorem e28_5 : decode jdk_41_method_13_code 5 = .ok (.ifCond .lt 10, 3) := by decide +kernel
theorem e28_8 : decode jdk_41_method_13_code 8 = .ok (.iload_n 1, 1) := by decide +kernel
theorem e28_9 : decode jdk_41_method_13_code 9 = .ok (.iload_n 2, 1) := by decide +kernel
theorem e28_10 : decode jdk_41_method_13_code 10 = .ok (.iload_n 0, 1) := by decide +kernel
theorem e28_11 : decode jdk_41_method_13_code 11 = .ok (.isub, 1) := by decide +kernel
theorem e28_12 : decode jdk_41_method_13_code 12 = .ok (.if_icmp .le 11, 3) := by decide +kernel
theorem e28_23 : decode jdk_41_method_13_code 23 = .ok (.iload_n 0, 1) := by decide +kernel
theorem e28_24 : decode jdk_41_method_13_code 24 = .ok (.ireturn, 1) := by decide +kernel
theorem e27_9 : decode jdk_42_method_157_code 9 = .ok (.ireturn, 1) := by decide +kernel
theorem e26_9 : decode jdk_52_method_94_code 9 = .ok (.pop, 1) := by decide +kernel
theorem e26_10 : decode jdk_52_method_94_code 10 = .ok (.return_, 1) := by decide +kernel
theorem e29_0 : decode jdk_52_method_22_code 0 = .ok (.iload_n 1, 1) := by decide +kernel
theorem e29_1 : decode jdk_52_method_22_code 1 = .ok (.iload 4, 2) := by decide +kernel
theorem e29_3 : decode jdk_52_method_22_code 3 = .ok (.aload_n 0, 1) := by decide +kernel
theorem e29_4 : decode jdk_52_method_22_code 4 = .ok (.invokestatic 173, 3) := by decide +kernel
theorem e29_7 : decode jdk_52_method_22_code 7 = .ok (.iconst 0, 1) := by decide +kernel
theorem e29_8 : decode jdk_52_method_22_code 8 = .ok (.istore 5, 2) := by decide +kernel
theorem e29_10 : decode jdk_52_method_22_code 10 = .ok (.iload 5, 2) := by decide +kernel
theorem e29_12 : decode jdk_52_method_22_code 12 = .ok (.iload 4, 2) := by decide +kernel
theorem e29_14 : decode jdk_52_method_22_code 14 = .ok (.if_icmp .ge 39, 3) := by decide +kernel
theorem e29_17 : decode jdk_52_method_22_code 17 = .ok (.aload_n 0, 1) := by decide +kernel
theorem e29_18 : decode jdk_52_method_22_code 18 = .ok (.iload_n 1, 1) := by decide +kernel
theorem e29_19 : decode jdk_52_method_22_code 19 = .ok (.invokestatic 71, 3) := by decide +kernel
theorem e29_22 : decode jdk_52_method_22_code 22 = .ok (.istore 6, 2) := by decide +kernel
theorem e29_24 : decode jdk_52_method_22_code 24 = .ok (.iload 6, 2) := by decide +kernel
theorem e29_26 : decode jdk_52_method_22_code 26 = .ok (.sipush 255, 3) := by decide +kernel
theorem e29_29 : decode jdk_52_method_22_code 29 = .ok (.if_icmp .le 6, 3) := by decide +kernel
theorem e29_32 : decode jdk_52_method_22_code 32 = .ok (.iload 5, 2) := by decide +kernel
theorem e29_34 : decode jdk_52_method_22_code 34 = .ok (.ireturn, 1) := by decide +kernel
theorem e29_35 : decode jdk_52_method_22_code 35 = .ok (.aload_n 2, 1) := by decide +kernel
theorem e29_36 : decode jdk_52_method_22_code 36 = .ok (.iload_n 3, 1) := by decide +kernel
theorem e29_37 : decode jdk_52_method_22_code 37 = .ok (.iload 6, 2) := by decide +kernel
theorem e29_39 : decode jdk_52_method_22_code 39 = .ok (.i2b, 1) := by decide +kernel
theorem e29_40 : decode jdk_52_method_22_code 40 = .ok (.bastore, 1) := by decide +kernel
theorem e29_41 : decode jdk_52_method_22_code 41 = .ok (.iinc 1 1, 3) := by decide +kernel
theorem e29_44 : decode jdk_52_method_22_code 44 = .ok (.iinc 3 1, 3) := by decide +kernel
theorem e29_47 : decode jdk_52_method_22_code 47 = .ok (.iinc 5 1, 3) := by decide +kernel
theorem e29_50 : decode jdk_52_method_22_code 50 = .ok (.goto (-40), 3) := by decide +kernel
theorem e29_53 : decode jdk_52_method_22_code 53 = .ok (.iload 4, 2) := by decide +kernel
theorem e29_55 : decode jdk_52_method_22_code 55 = .ok (.ireturn, 1) := by decide +kernel
theorem e30_0 : decode jdk_52_method_17_code 0 = .ok (.iload_n 2, 1) := by decide +kernel
theorem e30_1 : decode jdk_52_method_17_code 1 = .ok (.newarray .byte, 2) := by decide +kernel
theorem e30_3 : decode jdk_52_method_17_code 3 = .ok (.astore_n 3, 1) := by decide +kernel
theorem e30_4 : decode jdk_52_method_17_code 4 = .ok (.aload_n 0, 1) := by decide +kernel
theorem e30_5 : decode jdk_52_method_17_code 5 = .ok (.iload_n 1, 1) := by decide +kernel
theorem e30_6 : decode jdk_52_method_17_code 6 = .ok (.aload_n 3, 1) := by decide +kernel
theorem e30_7 : decode jdk_52_method_17_code 7 = .ok (.iconst 0, 1) := by decide +kernel
theorem e30_8 : decode jdk_52_method_17_code 8 = .ok (.iload_n 2, 1) := by decide +kernel
theorem e30_9 : decode jdk_52_method_17_code 9 = .ok (.invokestatic 123, 3) := by decide +kernel
theorem e30_12 : decode jdk_52_method_17_code 12 = .ok (.istore 4, 2) := by decide +kernel
theorem e30_14 : decode jdk_52_method_17_code 14 = .ok (.iload 4, 2) := by decide +kernel
theorem e30_16 : decode jdk_52_method_17_code 16 = .ok (.iload_n 2, 1) := by decide +kernel
theorem e30_17 : decode jdk_52_method_17_code 17 = .ok (.if_icmp .eq 47, 3) := by decide +kernel
theorem e30_64 : decode jdk_52_method_17_code 64 = .ok (.aload_n 3, 1) := by decide +kernel
theorem e30_65 : decode jdk_52_method_17_code 65 = .ok (.areturn, 1) := by decide +kernel
theorem e30_20 : decode jdk_52_method_17_code 20 = .ok (.aload_n 0, 1) := by decide +kernel
theorem e30_21 : decode jdk_52_method_17_code 21 = .ok (.iload_n 1, 1) := by decide +kernel
theorem e30_22 : decode jdk_52_method_17_code 22 = .ok (.iconst 1, 1) := by decide +kernel
theorem e30_23 : decode jdk_52_method_17_code 23 = .ok (.ishl, 1) := by decide +kernel
theorem e30_24 : decode jdk_52_method_17_code 24 = .ok (.iload_n 1, 1) := by decide +kernel
theorem e30_25 : decode jdk_52_method_17_code 25 = .ok (.iload_n 2, 1) := by decide +kernel
theorem e30_26 : decode jdk_52_method_17_code 26 = .ok (.iadd, 1) := by decide +kernel
theorem e30_27 : decode jdk_52_method_17_code 27 = .ok (.invokestatic 11, 3) := by decide +kernel
theorem e30_30 : decode jdk_52_method_17_code 30 = .ok (.invokestatic 126, 3) := by decide +kernel
theorem e30_33 : decode jdk_52_method_17_code 33 = .ok (.astore 5, 2) := by decide +kernel
theorem e30_35 : decode jdk_52_method_17_code 35 = .ok (.aload 5, 2) := by decide +kernel
theorem e30_37 : decode jdk_52_method_17_code 37 = .ok (.iload 4, 2) := by decide +kernel
theorem e30_39 : decode jdk_52_method_17_code 39 = .ok (.invokestatic 71, 3) := by decide +kernel
theorem e30_42 : decode jdk_52_method_17_code 42 = .ok (.sipush 255, 3) := by decide +kernel
theorem e30_45 : decode jdk_52_method_17_code 45 = .ok (.if_icmp .gt 16, 3) := by decide +kernel
theorem e30_61 : decode jdk_52_method_17_code 61 = .ok (.aload 5, 2) := by decide +kernel
theorem e30_63 : decode jdk_52_method_17_code 63 = .ok (.areturn, 1) := by decide +kernel
theorem e31_0 : decode jdk_52_method_69_code 0 = .ok (.iload_n 2, 1) := by decide +kernel
theorem e31_1 : decode jdk_52_method_69_code 1 = .ok (.ifCond .ne 7, 3) := by decide +kernel
theorem e31_8 : decode jdk_52_method_69_code 8 = .ok (.getstatic 251, 3) := by decide +kernel
theorem e31_11 : decode jdk_52_method_69_code 11 = .ok (.ifCond .eq 28, 3) := by decide +kernel
theorem e31_14 : decode jdk_52_method_69_code 14 = .ok (.aload_n 0, 1) := by decide +kernel
theorem e31_15 : decode jdk_52_method_69_code 15 = .ok (.iload_n 1, 1) := by decide +kernel
theorem e31_16 : decode jdk_52_method_69_code 16 = .ok (.iload_n 2, 1) := by decide +kernel
theorem e31_17 : decode jdk_52_method_69_code 17 = .ok (.invokestatic 257, 3) := by decide +kernel
theorem e31_20 : decode jdk_52_method_69_code 20 = .ok (.astore_n 3, 1) := by decide +kernel
theorem e31_21 : decode jdk_52_method_69_code 21 = .ok (.aload_n 3, 1) := by decide +kernel
theorem e31_22 : decode jdk_52_method_69_code 22 = .ok (.iload_n 2, 1) := by decide +kernel
theorem e31_23 : decode jdk_52_method_69_code 23 = .ok (.invokestatic 259, 3) := by decide +kernel
theorem e31_26 : decode jdk_52_method_69_code 26 = .ok (.istore 4, 2) := by decide +kernel
theorem e31_28 : decode jdk_52_method_69_code 28 = .ok (.new 3, 3) := by decide +kernel
theorem e31_31 : decode jdk_52_method_69_code 31 = .ok (.dup, 1) := by decide +kernel
theorem e31_32 : decode jdk_52_method_69_code 32 = .ok (.aload_n 3, 1) := by decide +kernel
theorem e31_33 : decode jdk_52_method_69_code 33 = .ok (.iload 4, 2) := by decide +kernel
theorem e31_35 : decode jdk_52_method_69_code 35 = .ok (.invokespecial 263, 3) := by decide +kernel
theorem e31_38 : decode jdk_52_method_69_code 38 = .ok (.areturn, 1) := by decide +kernel
theorem e32_0 : decode jdk_42_method_92_code 0 = .ok (.aload_n 0, 1) := by decide +kernel
theorem e32_1 : decode jdk_42_method_92_code 1 = .ok (.invokevirtual 505, 3) := by decide +kernel
theorem e32_4 : decode jdk_42_method_92_code 4 = .ok (.istore_n 3, 1) := by decide +kernel
theorem e32_5 : decode jdk_42_method_92_code 5 = .ok (.iload_n 1, 1) := by decide +kernel
theorem e32_6 : decode jdk_42_method_92_code 6 = .ok (.iload_n 2, 1) := by decide +kernel
theorem e32_7 : decode jdk_42_method_92_code 7 = .ok (.iload_n 3, 1) := by decide +kernel
theorem e32_8 : decode jdk_42_method_92_code 8 = .ok (.invokestatic 521, 3) := by decide +kernel
theorem e33_0 : decode jdk_42_method_158_code 0 = .ok (.iload_n 0, 1) := by decide +kernel
theorem e33_1 : decode jdk_42_method_158_code 1 = .ok (.iload_n 1, 1) := by decide +kernel
theorem e33_2 : decode jdk_42_method_158_code 2 = .ok (.iload_n 2, 1) := by decide +kernel
theorem e33_3 : decode jdk_42_method_158_code 3 = .ok (.getstatic 1053, 3) := by decide +kernel
theorem e33_6 : decode jdk_42_method_158_code 6 = .ok (.invokestatic 1062, 3) := by decide +kernel
theorem e34_0 : decode jdk_41_method_12_code 0 = .ok (.iload_n 0, 1) := by decide +kernel
theorem e34_1 : decode jdk_41_method_12_code 1 = .ok (.ifCond .lt 13, 3) := by decide +kernel
theorem e34_4 : decode jdk_41_method_12_code 4 = .ok (.iload_n 0, 1) := by decide +kernel
theorem e34_5 : decode jdk_41_method_12_code 5 = .ok (.iload_n 1, 1) := by decide +kernel
theorem e34_6 : decode jdk_41_method_12_code 6 = .ok (.if_icmp .gt 8, 3) := by decide +kernel
theorem e34_9 : decode jdk_41_method_12_code 9 = .ok (.iload_n 1, 1) := by decide +kernel
theorem e34_10 : decode jdk_41_method_12_code 10 = .ok (.iload_n 2, 1) := by decide +kernel
theorem e34_11 : decode jdk_41_method_12_code 11 = .ok (.if_icmp .le 11, 3) := by decide +kernel
theorem e34_22 : decode jdk_41_method_12_code 22 = .ok (.iload_n 0, 1) := by decide +kernel
theorem e34_23 : decode jdk_41_method_12_code 23 = .ok (.ireturn, 1) := by decide +kernel
theorem e33_9 : decode jdk_42_method_158_code 9 = .ok (.pop, 1) := by decide +kernel
theorem e33_10 : decode jdk_42_method_158_code 10 = .ok (.return_, 1) := by decide +kernel
theorem e32_11 : decode jdk_42_method_92_code 11 = .ok (.iload_n 1, 1) := by decide +kernel
theorem e32_12 : decode jdk_42_method_92_code 12 = .ok (.ifCond .ne 10, 3) := by decide +kernel
theorem e32_15 : decode jdk_42_method_92_code 15 = .ok (.iload_n 2, 1) := by decide +kernel
theorem e32_16 : decode jdk_42_method_92_code 16 = .ok (.iload_n 3, 1) := by decide +kernel
theorem e32_17 : decode jdk_42_method_92_code 17 = .ok (.if_icmp .ne 5, 3) := by decide +kernel
theorem e32_20 : decode jdk_42_method_92_code 20 = .ok (.aload_n 0, 1) := by decide +kernel
theorem e32_21 : decode jdk_42_method_92_code 21 = .ok (.areturn, 1) := by decide +kernel
theorem e32_22 : decode jdk_42_method_92_code 22 = .ok (.iload_n 2, 1) := by decide +kernel
theorem e32_23 : decode jdk_42_method_92_code 23 = .ok (.iload_n 1, 1) := by decide +kernel
theorem e32_24 : decode jdk_42_method_92_code 24 = .ok (.isub, 1) := by decide +kernel
theorem e32_25 : decode jdk_42_method_92_code 25 = .ok (.istore 4, 2) := by decide +kernel
theorem e32_27 : decode jdk_42_method_92_code 27 = .ok (.aload_n 0, 1) := by decide +kernel
theorem e32_28 : decode jdk_42_method_92_code 28 = .ok (.invokevirtual 492, 3) := by decide +kernel
theorem e32_31 : decode jdk_42_method_92_code 31 = .ok (.ifCond .eq 16, 3) := by decide +kernel
theorem e32_34 : decode jdk_42_method_92_code 34 = .ok (.aload_n 0, 1) := by decide +kernel
theorem e32_35 : decode jdk_42_method_92_code 35 = .ok (.getfield 9, 3) := by decide +kernel
theorem e32_38 : decode jdk_42_method_92_code 38 = .ok (.iload_n 1, 1) := by decide +kernel
theorem e32_39 : decode jdk_42_method_92_code 39 = .ok (.iload 4, 2) := by decide +kernel
theorem e32_41 : decode jdk_42_method_92_code 41 = .ok (.invokestatic 685, 3) := by decide +kernel
theorem e32_44 : decode jdk_42_method_92_code 44 = .ok (.goto 13, 3) := by decide +kernel
theorem e32_57 : decode jdk_42_method_92_code 57 = .ok (.areturn, 1) := by decide +kernel
theorem e32_47 : decode jdk_42_method_92_code 47 = .ok (.aload_n 0, 1) := by decide +kernel
theorem e32_48 : decode jdk_42_method_92_code 48 = .ok (.getfield 9, 3) := by decide +kernel
theorem e32_51 : decode jdk_42_method_92_code 51 = .ok (.iload_n 1, 1) := by decide +kernel
theorem e32_52 : decode jdk_42_method_92_code 52 = .ok (.iload 4, 2) := by decide +kernel
theorem e32_54 : decode jdk_42_method_92_code 54 = .ok (.invokestatic 689, 3) := by decide +kernel
theorem e35_0 : decode method_2_code 0 = .ok (.iload_n 0, 1) := by decide +kernel
theorem e35_1 : decode method_2_code 1 = .ok (.bipush 7, 2) := by decide +kernel
theorem e35_3 : decode method_2_code 3 = .ok (.iand, 1) := by decide +kernel
theorem e35_4 : decode method_2_code 4 = .ok (.istore_n 1, 1) := by decide +kernel
theorem e35_5 : decode method_2_code 5 = .ok (.iload_n 1, 1) := by decide +kernel
theorem e35_6 : decode method_2_code 6 = .ok (.ifCond .ne 6, 3) := by decide +kernel
theorem e35_9 : decode method_2_code 9 = .ok (.bipush 32, 2) := by decide +kernel
theorem e35_11 : decode method_2_code 11 = .ok (.ireturn, 1) := by decide +kernel
theorem e35_12 : decode method_2_code 12 = .ok (.iload_n 1, 1) := by decide +kernel
theorem e35_13 : decode method_2_code 13 = .ok (.iconst 1, 1) := by decide +kernel
theorem e35_14 : decode method_2_code 14 = .ok (.if_icmp .ne 6, 3) := by decide +kernel
theorem e35_17 : decode method_2_code 17 = .ok (.bipush 59, 2) := by decide +kernel
theorem e35_19 : decode method_2_code 19 = .ok (.ireturn, 1) := by decide +kernel
theorem e35_20 : decode method_2_code 20 = .ok (.iload_n 1, 1) := by decide +kernel
theorem e35_21 : decode method_2_code 21 = .ok (.iconst 2, 1) := by decide +kernel
theorem e35_22 : decode method_2_code 22 = .ok (.if_icmp .ne 6, 3) := by decide +kernel
theorem e35_25 : decode method_2_code 25 = .ok (.bipush 44, 2) := by decide +kernel
theorem e35_27 : decode method_2_code 27 = .ok (.ireturn, 1) := by decide +kernel
theorem e35_28 : decode method_2_code 28 = .ok (.iload_n 1, 1) := by decide +kernel
theorem e35_29 : decode method_2_code 29 = .ok (.iconst 3, 1) := by decide +kernel
theorem e35_30 : decode method_2_code 30 = .ok (.if_icmp .ne 6, 3) := by decide +kernel
theorem e35_33 : decode method_2_code 33 = .ok (.bipush 58, 2) := by decide +kernel
theorem e35_35 : decode method_2_code 35 = .ok (.ireturn, 1) := by decide +kernel
theorem e35_36 : decode method_2_code 36 = .ok (.iload_n 1, 1) := by decide +kernel
theorem e35_37 : decode method_2_code 37 = .ok (.iconst 4, 1) := by decide +kernel
theorem e35_38 : decode method_2_code 38 = .ok (.if_icmp .ne 6, 3) := by decide +kernel
theorem e35_41 : decode method_2_code 41 = .ok (.bipush 46, 2) := by decide +kernel
theorem e35_43 : decode method_2_code 43 = .ok (.ireturn, 1) := by decide +kernel
theorem e35_44 : decode method_2_code 44 = .ok (.iload_n 1, 1) := by decide +kernel
theorem e35_45 : decode method_2_code 45 = .ok (.iconst 5, 1) := by decide +kernel
theorem e35_46 : decode method_2_code 46 = .ok (.if_icmp .ne 6, 3) := by decide +kernel
theorem e35_49 : decode method_2_code 49 = .ok (.bipush 32, 2) := by decide +kernel
theorem e35_51 : decode method_2_code 51 = .ok (.ireturn, 1) := by decide +kernel
theorem e35_52 : decode method_2_code 52 = .ok (.iload_n 1, 1) := by decide +kernel
theorem e35_53 : decode method_2_code 53 = .ok (.bipush 6, 2) := by decide +kernel
theorem e35_55 : decode method_2_code 55 = .ok (.if_icmp .ne 6, 3) := by decide +kernel
theorem e35_58 : decode method_2_code 58 = .ok (.bipush 97, 2) := by decide +kernel
theorem e35_60 : decode method_2_code 60 = .ok (.ireturn, 1) := by decide +kernel
theorem e35_61 : decode method_2_code 61 = .ok (.iload_n 0, 1) := by decide +kernel
theorem e35_62 : decode method_2_code 62 = .ok (.iconst 3, 1) := by decide +kernel
theorem e35_63 : decode method_2_code 63 = .ok (.iushr, 1) := by decide +kernel
theorem e35_64 : decode method_2_code 64 = .ok (.ldc 7, 2) := by decide +kernel
theorem e35_66 : decode method_2_code 66 = .ok (.iand, 1) := by decide +kernel
theorem e35_67 : decode method_2_code 67 = .ok (.i2c, 1) := by decide +kernel
theorem e35_68 : decode method_2_code 68 = .ok (.ireturn, 1) := by decide +kernel
theorem e36_0 : decode method_3_code 0 = .ok (.iload_n 0, 1) := by decide +kernel
theorem e36_1 : decode method_3_code 1 = .ok (.ifCond .ne 14, 3) := by decide +kernel
theorem e36_4 : decode method_3_code 4 = .ok (.new 8, 3) := by decide +kernel
theorem e36_7 : decode method_3_code 7 = .ok (.dup, 1) := by decide +kernel
theorem e36_8 : decode method_3_code 8 = .ok (.iconst 0, 1) := by decide +kernel
theorem e36_9 : decode method_3_code 9 = .ok (.newarray .char, 2) := by decide +kernel
theorem e36_11 : decode method_3_code 11 = .ok (.invokespecial 10, 3) := by decide +kernel
theorem e36_14 : decode method_3_code 14 = .ok (.areturn, 1) := by decide +kernel
theorem e37_0 : decode prog_11_method_1_code 0 = .ok (.aload_n 0, 1) := by decide +kernel
theorem e37_1 : decode prog_11_method_1_code 1 = .ok (.invokespecial 1, 3) := by decide +kernel
theorem e38_0 : decode jdk_30_method_1_code 0 = .ok (.aload_n 0, 1) := by decide +kernel
theorem e38_1 : decode jdk_30_method_1_code 1 = .ok (.invokespecial 1, 3) := by decide +kernel
theorem e38_4 : decode jdk_30_method_1_code 4 = .ok (.return_, 1) := by decide +kernel
theorem e37_4 : decode prog_11_method_1_code 4 = .ok (.aload_n 0, 1) := by decide +kernel
theorem e37_5 : decode prog_11_method_1_code 5 = .ok (.iload_n 1, 1) := by decide +kernel
theorem e37_6 : decode prog_11_method_1_code 6 = .ok (.putfield 7, 3) := by decide +kernel
theorem e37_9 : decode prog_11_method_1_code 9 = .ok (.aload_n 0, 1) := by decide +kernel
theorem e37_10 : decode prog_11_method_1_code 10 = .ok (.aload_n 2, 1) := by decide +kernel
theorem e37_11 : decode prog_11_method_1_code 11 = .ok (.putfield 13, 3) := by decide +kernel
theorem e37_14 : decode prog_11_method_1_code 14 = .ok (.return_, 1) := by decide +kernel
theorem e39_0 : decode prog_11_method_3_code 0 = .ok (.aload_n 0, 1) := by decide +kernel
theorem e39_1 : decode prog_11_method_3_code 1 = .ok (.iconst 0, 1) := by decide +kernel
theorem e39_2 : decode prog_11_method_3_code 2 = .ok (.aload_n 0, 1) := by decide +kernel
theorem e39_3 : decode prog_11_method_3_code 3 = .ok (.getfield 13, 3) := by decide +kernel
theorem e39_6 : decode prog_11_method_3_code 6 = .ok (.invokevirtual 17, 3) := by decide +kernel
theorem e39_9 : decode prog_11_method_3_code 9 = .ok (.invokevirtual 27, 3) := by decide +kernel
theorem e40_0 : decode prog_11_method_5_code 0 = .ok (.iload_n 2, 1) := by decide +kernel
theorem e40_1 : decode prog_11_method_5_code 1 = .ok (.istore_n 3, 1) := by decide +kernel
theorem e40_2 : decode prog_11_method_5_code 2 = .ok (.iload_n 3, 1) := by decide +kernel
theorem e40_3 : decode prog_11_method_5_code 3 = .ok (.iload_n 1, 1) := by decide +kernel
theorem e40_4 : decode prog_11_method_5_code 4 = .ok (.if_icmp .le 24, 3) := by decide +kernel
theorem e40_28 : decode prog_11_method_5_code 28 = .ok (.iload_n 3, 1) := by decide +kernel
theorem e40_29 : decode prog_11_method_5_code 29 = .ok (.ireturn, 1) := by decide +kernel
theorem e39_12 : decode prog_11_method_3_code 12 = .ok (.istore_n 1, 1) := by decide +kernel
theorem e39_13 : decode prog_11_method_3_code 13 = .ok (.aload_n 0, 1) := by decide +kernel
theorem e39_14 : decode prog_11_method_3_code 14 = .ok (.iconst 0, 1) := by decide +kernel
theorem e39_15 : decode prog_11_method_3_code 15 = .ok (.iload_n 1, 1) := by decide +kernel
theorem e39_16 : decode prog_11_method_3_code 16 = .ok (.invokevirtual 31, 3) := by decide +kernel
theorem e41_0 : decode prog_11_method_4_code 0 = .ok (.iload_n 2, 1) := by decide +kernel
theorem e41_1 : decode prog_11_method_4_code 1 = .ok (.iload_n 1, 1) := by decide +kernel
theorem e41_2 : decode prog_11_method_4_code 2 = .ok (.if_icmp .le 32, 3) := by decide +kernel
theorem e41_34 : decode prog_11_method_4_code 34 = .ok (.iload_n 2, 1) := by decide +kernel
theorem e41_35 : decode prog_11_method_4_code 35 = .ok (.ireturn, 1) := by decide +kernel
theorem e39_19 : decode prog_11_method_3_code 19 = .ok (.istore_n 2, 1) := by decide +kernel
theorem e39_20 : decode prog_11_method_3_code 20 = .ok (.iload_n 2, 1) := by decide +kernel
theorem e39_21 : decode prog_11_method_3_code 21 = .ok (.iload_n 1, 1) := by decide +kernel
theorem e39_22 : decode prog_11_method_3_code 22 = .ok (.if_icmp .ne 10, 3) := by decide +kernel
theorem e39_25 : decode prog_11_method_3_code 25 = .ok (.aload_n 0, 1) := by decide +kernel
theorem e39_26 : decode prog_11_method_3_code 26 = .ok (.getfield 13, 3) := by decide +kernel
theorem e39_29 : decode prog_11_method_3_code 29 = .ok (.goto 12, 3) := by decide +kernel
theorem e39_41 : decode prog_11_method_3_code 41 = .ok (.areturn, 1) := by decide +kernel
theorem e42_0 : decode method_4_code 0 = .ok (.iload_n 1, 1) := by decide +kernel
theorem e42_1 : decode method_4_code 1 = .ok (.istore_n 2, 1) := by decide +kernel
theorem e42_2 : decode method_4_code 2 = .ok (.iload_n 2, 1) := by decide +kernel
theorem e42_3 : decode method_4_code 3 = .ok (.ifCond .le 16, 3) := by decide +kernel
theorem e42_19 : decode method_4_code 19 = .ok (.iload_n 2, 1) := by decide +kernel
theorem e42_20 : decode method_4_code 20 = .ok (.ifCond .le 16, 3) := by decide +kernel
theorem e42_36 : decode method_4_code 36 = .ok (.iload_n 2, 1) := by decide +kernel
theorem e42_37 : decode method_4_code 37 = .ok (.ifCond .le 16, 3) := by decide +kernel
theorem e42_53 : decode method_4_code 53 = .ok (.iload_n 2, 1) := by decide +kernel
theorem e42_54 : decode method_4_code 54 = .ok (.ifCond .le 16, 3) := by decide +kernel
theorem e42_70 : decode method_4_code 70 = .ok (.iload_n 2, 1) := by decide +kernel
theorem e42_71 : decode method_4_code 71 = .ok (.ireturn, 1) := by decide +kernel
theorem e43_0 : decode jdk_42_method_66_code 0 = .ok (.aload_n 0, 1) := by decide +kernel
theorem e43_1 : decode jdk_42_method_66_code 1 = .ok (.aload_n 1, 1) := by decide +kernel
theorem e43_2 : decode jdk_42_method_66_code 2 = .ok (.if_acmp .ne 5, 3) := by decide +kernel
theorem e43_5 : decode jdk_42_method_66_code 5 = .ok (.iconst 1, 1) := by decide +kernel
theorem e43_6 : decode jdk_42_method_66_code 6 = .ok (.ireturn, 1) := by decide +kernel
theorem e36_15 : decode method_3_code 15 = .ok (.iload_n 0, 1) := by decide +kernel
theorem e36_16 : decode method_3_code 16 = .ok (.iconst 1, 1) := by decide +kernel
theorem e36_17 : decode method_3_code 17 = .ok (.if_icmp .ne 20, 3) := by decide +kernel
theorem e36_20 : decode method_3_code 20 = .ok (.new 8, 3) := by decide +kernel
theorem e36_23 : decode method_3_code 23 = .ok (.dup, 1) := by decide +kernel
theorem e36_24 : decode method_3_code 24 = .ok (.iconst 1, 1) := by decide +kernel
theorem e36_25 : decode method_3_code 25 = .ok (.newarray .char, 2) := by decide +kernel
theorem e36_27 : decode method_3_code 27 = .ok (.dup, 1) := by decide +kernel
theorem e36_28 : decode method_3_code 28 = .ok (.iconst 0, 1) := by decide +kernel
theorem e36_29 : decode method_3_code 29 = .ok (.aload_n 1, 1) := by decide +kernel
theorem e36_30 : decode method_3_code 30 = .ok (.iconst 0, 1) := by decide +kernel
theorem e36_31 : decode method_3_code 31 = .ok (.caload, 1) := by decide +kernel
theorem e36_32 : decode method_3_code 32 = .ok (.castore, 1) := by decide +kernel
theorem e36_33 : decode method_3_code 33 = .ok (.invokespecial 10, 3) := by decide +kernel
theorem e36_36 : decode method_3_code 36 = .ok (.areturn, 1) := by decide +kernel
theorem e40_7 : decode prog_11_method_5_code 7 = .ok (.aload_n 0, 1) := by decide +kernel
theorem e40_8 : decode prog_11_method_5_code 8 = .ok (.getfield 13, 3) := by decide +kernel
theorem e40_11 : decode prog_11_method_5_code 11 = .ok (.iload_n 3, 1) := by decide +kernel
theorem e40_12 : decode prog_11_method_5_code 12 = .ok (.iconst 1, 1) := by decide +kernel
theorem e40_13 : decode prog_11_method_5_code 13 = .ok (.isub, 1) := by decide +kernel
theorem e40_14 : decode prog_11_method_5_code 14 = .ok (.invokevirtual 23, 3) := by decide +kernel
theorem e40_17 : decode prog_11_method_5_code 17 = .ok (.bipush 32, 2) := by decide +kernel
theorem e40_19 : decode prog_11_method_5_code 19 = .ok (.if_icmp .ne 9, 3) := by decide +kernel
theorem e40_22 : decode prog_11_method_5_code 22 = .ok (.iinc 3 (-1), 3) := by decide +kernel
theorem e40_25 : decode prog_11_method_5_code 25 = .ok (.goto (-23), 3) := by decide +kernel
theorem e41_5 : decode prog_11_method_4_code 5 = .ok (.ldc 38, 2) := by decide +kernel
theorem e41_7 : decode prog_11_method_4_code 7 = .ok (.aload_n 0, 1) := by decide +kernel
theorem e41_8 : decode prog_11_method_4_code 8 = .ok (.getfield 13, 3) := by decide +kernel
theorem e41_11 : decode prog_11_method_4_code 11 = .ok (.iload_n 2, 1) := by decide +kernel
theorem e41_12 : decode prog_11_method_4_code 12 = .ok (.iconst 1, 1) := by decide +kernel
theorem e41_13 : decode prog_11_method_4_code 13 = .ok (.isub, 1) := by decide +kernel
theorem e41_14 : decode prog_11_method_4_code 14 = .ok (.invokevirtual 23, 3) := by decide +kernel
theorem e41_17 : decode prog_11_method_4_code 17 = .ok (.invokevirtual 40, 3) := by decide +kernel
theorem e44_0 : decode jdk_42_method_79_code 0 = .ok (.aload_n 0, 1) := by decide +kernel
theorem e44_1 : decode jdk_42_method_79_code 1 = .ok (.iload_n 1, 1) := by decide +kernel
theorem e44_2 : decode jdk_42_method_79_code 2 = .ok (.iconst 0, 1) := by decide +kernel
theorem e44_3 : decode jdk_42_method_79_code 3 = .ok (.invokevirtual 633, 3) := by decide +kernel
theorem e45_0 : decode jdk_42_method_80_code 0 = .ok (.aload_n 0, 1) := by decide +kernel
theorem e45_1 : decode jdk_42_method_80_code 1 = .ok (.invokevirtual 492, 3) := by decide +kernel
theorem e45_4 : decode jdk_42_method_80_code 4 = .ok (.ifCond .eq 19, 3) := by decide +kernel
theorem e45_7 : decode jdk_42_method_80_code 7 = .ok (.aload_n 0, 1) := by decide +kernel
theorem e45_8 : decode jdk_42_method_80_code 8 = .ok (.getfield 9, 3) := by decide +kernel
theorem e45_11 : decode jdk_42_method_80_code 11 = .ok (.iload_n 1, 1) := by decide +kernel
theorem e45_12 : decode jdk_42_method_80_code 12 = .ok (.iload_n 2, 1) := by decide +kernel
theorem e45_13 : decode jdk_42_method_80_code 13 = .ok (.aload_n 0, 1) := by decide +kernel
theorem e45_14 : decode jdk_42_method_80_code 14 = .ok (.invokevirtual 505, 3) := by decide +kernel
theorem e45_17 : decode jdk_42_method_80_code 17 = .ok (.invokestatic 637, 3) := by decide +kernel
theorem e46_0 : decode jdk_43_method_22_code 0 = .ok (.iload_n 1, 1) := by decide +kernel
theorem e46_1 : decode jdk_43_method_22_code 1 = .ok (.invokestatic 88, 3) := by decide +kernel
theorem e47_0 : decode jdk_43_method_4_code 0 = .ok (.iload_n 0, 1) := by decide +kernel
theorem e47_1 : decode jdk_43_method_4_code 1 = .ok (.ifCond .lt 14, 3) := by decide +kernel
theorem e47_4 : decode jdk_43_method_4_code 4 = .ok (.iload_n 0, 1) := by decide +kernel
theorem e47_5 : decode jdk_43_method_4_code 5 = .ok (.sipush 255, 3) := by decide +kernel
theorem e47_8 : decode jdk_43_method_4_code 8 = .ok (.if_icmp .gt 7, 3) := by decide +kernel
theorem e47_15 : decode jdk_43_method_4_code 15 = .ok (.iconst 0, 1) := by decide +kernel
theorem e47_16 : decode jdk_43_method_4_code 16 = .ok (.ireturn, 1) := by decide +kernel
theorem e47_11 : decode jdk_43_method_4_code 11 = .ok (.iconst 1, 1) := by decide +kernel
theorem e47_12 : decode jdk_43_method_4_code 12 = .ok (.goto 4, 3) := by decide +kernel
theorem e46_4 : decode jdk_43_method_22_code 4 = .ok (.ifCond .ne 5, 3) := by decide +kernel
theorem e46_7 : decode jdk_43_method_22_code 7 = .ok (.iconst (-1), 1) := by decide +kernel
theorem e46_8 : decode jdk_43_method_22_code 8 = .ok (.ireturn, 1) := by decide +kernel
theorem e46_9 : decode jdk_43_method_22_code 9 = .ok (.iload_n 2, 1) := by decide +kernel
theorem e46_10 : decode jdk_43_method_22_code 10 = .ok (.iconst 0, 1) := by decide +kernel
theorem e46_11 : decode jdk_43_method_22_code 11 = .ok (.invokestatic 92, 3) := by decide +kernel
theorem e48_0 : decode jdk_29_method_65_code 0 = .ok (.iload_n 0, 1) := by decide +kernel
theorem e48_1 : decode jdk_29_method_65_code 1 = .ok (.iload_n 1, 1) := by decide +kernel
theorem e48_2 : decode jdk_29_method_65_code 2 = .ok (.if_icmp .lt 7, 3) := by decide +kernel
theorem e48_5 : decode jdk_29_method_65_code 5 = .ok (.iload_n 0, 1) := by decide +kernel
theorem e48_6 : decode jdk_29_method_65_code 6 = .ok (.goto 4, 3) := by decide +kernel
theorem e48_10 : decode jdk_29_method_65_code 10 = .ok (.ireturn, 1) := by decide +kernel
theorem e46_14 : decode jdk_43_method_22_code 14 = .ok (.istore_n 2, 1) := by decide +kernel
theorem e46_15 : decode jdk_43_method_22_code 15 = .ok (.iload_n 3, 1) := by decide +kernel
theorem e46_16 : decode jdk_43_method_22_code 16 = .ok (.aload_n 0, 1) := by decide +kernel
theorem e46_17 : decode jdk_43_method_22_code 17 = .ok (.arraylength, 1) := by decide +kernel
theorem e46_18 : decode jdk_43_method_22_code 18 = .ok (.invokestatic 38, 3) := by decide +kernel
theorem e46_21 : decode jdk_43_method_22_code 21 = .ok (.istore_n 3, 1) := by decide +kernel
theorem e46_22 : decode jdk_43_method_22_code 22 = .ok (.iload_n 2, 1) := by decide +kernel
theorem e46_23 : decode jdk_43_method_22_code 23 = .ok (.iload_n 3, 1) := by decide +kernel
theorem e46_24 : decode jdk_43_method_22_code 24 = .ok (.if_icmp .lt 5, 3) := by decide +kernel
theorem e46_29 : decode jdk_43_method_22_code 29 = .ok (.aload_n 0, 1) := by decide +kernel
theorem e46_30 : decode jdk_43_method_22_code 30 = .ok (.iload_n 1, 1) := by decide +kernel
theorem e46_31 : decode jdk_43_method_22_code 31 = .ok (.iload_n 2, 1) := by decide +kernel
theorem e46_32 : decode jdk_43_method_22_code 32 = .ok (.iload_n 3, 1) := by decide +kernel
theorem e46_33 : decode jdk_43_method_22_code 33 = .ok (.invokestatic 95, 3) := by decide +kernel
theorem e49_0 : decode jdk_43_method_23_code 0 = .ok (.iload_n 1, 1) := by decide +kernel
theorem e49_1 : decode jdk_43_method_23_code 1 = .ok (.i2b, 1) := by decide +kernel
theorem e49_2 : decode jdk_43_method_23_code 2 = .ok (.istore 4, 2) := by decide +kernel
theorem e49_4 : decode jdk_43_method_23_code 4 = .ok (.iload_n 2, 1) := by decide +kernel
theorem e49_5 : decode jdk_43_method_23_code 5 = .ok (.istore 5, 2) := by decide +kernel
theorem e49_7 : decode jdk_43_method_23_code 7 = .ok (.iload 5, 2) := by decide +kernel
theorem e49_9 : decode jdk_43_method_23_code 9 = .ok (.iload_n 3, 1) := by decide +kernel
theorem e49_10 : decode jdk_43_method_23_code 10 = .ok (.if_icmp .ge 21, 3) := by decide +kernel
theorem e49_13 : decode jdk_43_method_23_code 13 = .ok (.aload_n 0, 1) := by decide +kernel
theorem e49_14 : decode jdk_43_method_23_code 14 = .ok (.iload 5, 2) := by decide +kernel
theorem e49_16 : decode jdk_43_method_23_code 16 = .ok (.baload, 1) := by decide +kernel
theorem e49_17 : decode jdk_43_method_23_code 17 = .ok (.iload 4, 2) := by decide +kernel
theorem e49_19 : decode jdk_43_method_23_code 19 = .ok (.if_icmp .ne 6, 3) := by decide +kernel
theorem e49_22 : decode jdk_43_method_23_code 22 = .ok (.iload 5, 2) := by decide +kernel
theorem e49_24 : decode jdk_43_method_23_code 24 = .ok (.ireturn, 1) := by decide +kernel
theorem e49_25 : decode jdk_43_method_23_code 25 = .ok (.iinc 5 1, 3) := by decide +kernel
theorem e49_28 : decode jdk_43_method_23_code 28 = .ok (.goto (-21), 3) := by decide +kernel
theorem e49_31 : decode jdk_43_method_23_code 31 = .ok (.iconst (-1), 1) := by decide +kernel
theorem e49_32 : decode jdk_43_method_23_code 32 = .ok (.ireturn, 1) := by decide +kernel
theorem e46_36 : decode jdk_43_method_22_code 36 = .ok (.ireturn, 1) := by decide +kernel
theorem e45_20 : decode jdk_42_method_80_code 20 = .ok (.goto 16, 3) := by decide +kernel
theorem e45_36 : decode jdk_42_method_80_code 36 = .ok (.ireturn, 1) := by decide +kernel
theorem e44_6 : decode jdk_42_method_79_code 6 = .ok (.ireturn, 1) := by decide +kernel
theorem e41_20 : decode prog_11_method_4_code 20 = .ok (.ifCond .lt 14, 3) := by decide +kernel
theorem e41_23 : decode prog_11_method_4_code 23 = .ok (.aload_n 0, 1) := by decide +kernel
theorem e41_24 : decode prog_11_method_4_code 24 = .ok (.iload_n 1, 1) := by decide +kernel
theorem e41_25 : decode prog_11_method_4_code 25 = .ok (.iload_n 2, 1) := by decide +kernel
theorem e41_26 : decode prog_11_method_4_code 26 = .ok (.iconst 1, 1) := by decide +kernel
theorem e41_27 : decode prog_11_method_4_code 27 = .ok (.isub, 1) := by decide +kernel
theorem e41_28 : decode prog_11_method_4_code 28 = .ok (.invokevirtual 27, 3) := by decide +kernel
theorem e41_31 : decode prog_11_method_4_code 31 = .ok (.goto 4, 3) := by decide +kernel
theorem e39_32 : decode prog_11_method_3_code 32 = .ok (.aload_n 0, 1) := by decide +kernel
theorem e39_33 : decode prog_11_method_3_code 33 = .ok (.getfield 13, 3) := by decide +kernel
theorem e39_36 : decode prog_11_method_3_code 36 = .ok (.iconst 0, 1) := by decide +kernel
theorem e39_37 : decode prog_11_method_3_code 37 = .ok (.iload_n 2, 1) := by decide +kernel
theorem e39_38 : decode prog_11_method_3_code 38 = .ok (.invokevirtual 34, 3) := by decide +kernel
theorem e42_6 : decode method_4_code 6 = .ok (.aload_n 0, 1) := by decide +kernel
theorem e42_7 : decode method_4_code 7 = .ok (.iload_n 2, 1) := by decide +kernel
theorem e42_8 : decode method_4_code 8 = .ok (.iconst 1, 1) := by decide +kernel
theorem e42_9 : decode method_4_code 9 = .ok (.isub, 1) := by decide +kernel
theorem e42_10 : decode method_4_code 10 = .ok (.caload, 1) := by decide +kernel
theorem e42_11 : decode method_4_code 11 = .ok (.bipush 32, 2) := by decide +kernel
theorem e42_13 : decode method_4_code 13 = .ok (.if_icmp .ne 6, 3) := by decide +kernel
theorem e42_16 : decode method_4_code 16 = .ok (.iinc 2 (-1), 3) := by decide +kernel
theorem e42_23 : decode method_4_code 23 = .ok (.aload_n 0, 1) := by decide +kernel
theorem e42_24 : decode method_4_code 24 = .ok (.iload_n 2, 1) := by decide +kernel
theorem e42_25 : decode method_4_code 25 = .ok (.iconst 1, 1) := by decide +kernel
theorem e42_26 : decode method_4_code 26 = .ok (.isub, 1) := by decide +kernel
theorem e42_27 : decode method_4_code 27 = .ok (.caload, 1) := by decide +kernel
theorem e42_28 : decode method_4_code 28 = .ok (.bipush 32, 2) := by decide +kernel
theorem e42_30 : decode method_4_code 30 = .ok (.if_icmp .ne 6, 3) := by decide +kernel
theorem e42_40 : decode method_4_code 40 = .ok (.aload_n 0, 1) := by decide +kernel
theorem e42_41 : decode method_4_code 41 = .ok (.iload_n 2, 1) := by decide +kernel
theorem e42_42 : decode method_4_code 42 = .ok (.iconst 1, 1) := by decide +kernel
theorem e42_43 : decode method_4_code 43 = .ok (.isub, 1) := by decide +kernel
theorem e42_44 : decode method_4_code 44 = .ok (.caload, 1) := by decide +kernel
theorem e42_45 : decode method_4_code 45 = .ok (.bipush 32, 2) := by decide +kernel
theorem e42_47 : decode method_4_code 47 = .ok (.if_icmp .ne 6, 3) := by decide +kernel
theorem e42_57 : decode method_4_code 57 = .ok (.aload_n 0, 1) := by decide +kernel
theorem e42_58 : decode method_4_code 58 = .ok (.iload_n 2, 1) := by decide +kernel
theorem e42_59 : decode method_4_code 59 = .ok (.iconst 1, 1) := by decide +kernel
theorem e42_60 : decode method_4_code 60 = .ok (.isub, 1) := by decide +kernel
theorem e42_61 : decode method_4_code 61 = .ok (.caload, 1) := by decide +kernel
theorem e42_62 : decode method_4_code 62 = .ok (.bipush 32, 2) := by decide +kernel
theorem e42_64 : decode method_4_code 64 = .ok (.if_icmp .ne 6, 3) := by decide +kernel
theorem e50_0 : decode method_5_code 0 = .ok (.iload_n 2, 1) := by decide +kernel
theorem e50_1 : decode method_5_code 1 = .ok (.iconst 1, 1) := by decide +kernel
theorem e50_2 : decode method_5_code 2 = .ok (.if_icmp .lt 14, 3) := by decide +kernel
theorem e50_16 : decode method_5_code 16 = .ok (.iload_n 2, 1) := by decide +kernel
theorem e50_17 : decode method_5_code 17 = .ok (.iconst 2, 1) := by decide +kernel
theorem e50_18 : decode method_5_code 18 = .ok (.if_icmp .lt 14, 3) := by decide +kernel
theorem e50_32 : decode method_5_code 32 = .ok (.iload_n 2, 1) := by decide +kernel
theorem e50_33 : decode method_5_code 33 = .ok (.iconst 3, 1) := by decide +kernel
theorem e50_34 : decode method_5_code 34 = .ok (.if_icmp .lt 14, 3) := by decide +kernel
theorem e50_48 : decode method_5_code 48 = .ok (.iload_n 2, 1) := by decide +kernel
theorem e50_49 : decode method_5_code 49 = .ok (.iconst 4, 1) := by decide +kernel
theorem e50_50 : decode method_5_code 50 = .ok (.if_icmp .lt 14, 3) := by decide +kernel
theorem e50_64 : decode method_5_code 64 = .ok (.iconst 1, 1) := by decide +kernel
theorem e50_65 : decode method_5_code 65 = .ok (.goto 4, 3) := by decide +kernel
theorem e50_69 : decode method_5_code 69 = .ok (.ireturn, 1) := by decide +kernel
theorem e36_37 : decode method_3_code 37 = .ok (.iload_n 0, 1) := by decide +kernel
theorem e36_38 : decode method_3_code 38 = .ok (.iconst 2, 1) := by decide +kernel
theorem e36_39 : decode method_3_code 39 = .ok (.if_icmp .ne 26, 3) := by decide +kernel
theorem e36_42 : decode method_3_code 42 = .ok (.new 8, 3) := by decide +kernel
theorem e36_45 : decode method_3_code 45 = .ok (.dup, 1) := by decide +kernel
theorem e36_46 : decode method_3_code 46 = .ok (.iconst 2, 1) := by decide +kernel
theorem e36_47 : decode method_3_code 47 = .ok (.newarray .char, 2) := by decide +kernel
theorem e36_49 : decode method_3_code 49 = .ok (.dup, 1) := by decide +kernel
theorem e36_50 : decode method_3_code 50 = .ok (.iconst 0, 1) := by decide +kernel
theorem e36_51 : decode method_3_code 51 = .ok (.aload_n 1, 1) := by decide +kernel
theorem e36_52 : decode method_3_code 52 = .ok (.iconst 0, 1) := by decide +kernel
theorem e36_53 : decode method_3_code 53 = .ok (.caload, 1) := by decide +kernel
theorem e36_54 : decode method_3_code 54 = .ok (.castore, 1) := by decide +kernel
theorem e36_55 : decode method_3_code 55 = .ok (.dup, 1) := by decide +kernel
theorem e36_56 : decode method_3_code 56 = .ok (.iconst 1, 1) := by decide +kernel
theorem e36_57 : decode method_3_code 57 = .ok (.aload_n 1, 1) := by decide +kernel
theorem e36_58 : decode method_3_code 58 = .ok (.iconst 1, 1) := by decide +kernel
theorem e36_59 : decode method_3_code 59 = .ok (.caload, 1) := by decide +kernel
theorem e36_60 : decode method_3_code 60 = .ok (.castore, 1) := by decide +kernel
theorem e36_61 : decode method_3_code 61 = .ok (.invokespecial 10, 3) := by decide +kernel
theorem e36_64 : decode method_3_code 64 = .ok (.areturn, 1) := by decide +kernel
theorem e42_33 : decode method_4_code 33 = .ok (.iinc 2 (-1), 3) := by decide +kernel
theorem e50_5 : decode method_5_code 5 = .ok (.aload_n 0, 1) := by decide +kernel
theorem e50_6 : decode method_5_code 6 = .ok (.iconst 0, 1) := by decide +kernel
theorem e50_7 : decode method_5_code 7 = .ok (.invokevirtual 13, 3) := by decide +kernel
theorem e50_10 : decode method_5_code 10 = .ok (.aload_n 1, 1) := by decide +kernel
theorem e50_11 : decode method_5_code 11 = .ok (.iconst 0, 1) := by decide +kernel
theorem e50_12 : decode method_5_code 12 = .ok (.caload, 1) := by decide +kernel
theorem e50_13 : decode method_5_code 13 = .ok (.if_icmp .ne 55, 3) := by decide +kernel
theorem e36_65 : decode method_3_code 65 = .ok (.iload_n 0, 1) := by decide +kernel
theorem e36_66 : decode method_3_code 66 = .ok (.iconst 3, 1) := by decide +kernel
theorem e36_67 : decode method_3_code 67 = .ok (.if_icmp .ne 32, 3) := by decide +kernel
theorem e36_70 : decode method_3_code 70 = .ok (.new 8, 3) := by decide +kernel
theorem e36_73 : decode method_3_code 73 = .ok (.dup, 1) := by decide +kernel
theorem e36_74 : decode method_3_code 74 = .ok (.iconst 3, 1) := by decide +kernel
theorem e36_75 : decode method_3_code 75 = .ok (.newarray .char, 2) := by decide +kernel
theorem e36_77 : decode method_3_code 77 = .ok (.dup, 1) := by decide +kernel
theorem e36_78 : decode method_3_code 78 = .ok (.iconst 0, 1) := by decide +kernel
theorem e36_79 : decode method_3_code 79 = .ok (.aload_n 1, 1) := by decide +kernel
theorem e36_80 : decode method_3_code 80 = .ok (.iconst 0, 1) := by decide +kernel
theorem e36_81 : decode method_3_code 81 = .ok (.caload, 1) := by decide +kernel
theorem e36_82 : decode method_3_code 82 = .ok (.castore, 1) := by decide +kernel
theorem e36_83 : decode method_3_code 83 = .ok (.dup, 1) := by decide +kernel
theorem e36_84 : decode method_3_code 84 = .ok (.iconst 1, 1) := by decide +kernel
theorem e36_85 : decode method_3_code 85 = .ok (.aload_n 1, 1) := by decide +kernel
theorem e36_86 : decode method_3_code 86 = .ok (.iconst 1, 1) := by decide +kernel
theorem e36_87 : decode method_3_code 87 = .ok (.caload, 1) := by decide +kernel
theorem e36_88 : decode method_3_code 88 = .ok (.castore, 1) := by decide +kernel
theorem e36_89 : decode method_3_code 89 = .ok (.dup, 1) := by decide +kernel
theorem e36_90 : decode method_3_code 90 = .ok (.iconst 2, 1) := by decide +kernel
theorem e36_91 : decode method_3_code 91 = .ok (.aload_n 1, 1) := by decide +kernel
theorem e36_92 : decode method_3_code 92 = .ok (.iconst 2, 1) := by decide +kernel
theorem e36_93 : decode method_3_code 93 = .ok (.caload, 1) := by decide +kernel
theorem e36_94 : decode method_3_code 94 = .ok (.castore, 1) := by decide +kernel
theorem e36_95 : decode method_3_code 95 = .ok (.invokespecial 10, 3) := by decide +kernel
theorem e36_98 : decode method_3_code 98 = .ok (.areturn, 1) := by decide +kernel
theorem e42_50 : decode method_4_code 50 = .ok (.iinc 2 (-1), 3) := by decide +kernel
theorem e50_21 : decode method_5_code 21 = .ok (.aload_n 0, 1) := by decide +kernel
theorem e50_22 : decode method_5_code 22 = .ok (.iconst 1, 1) := by decide +kernel
theorem e50_23 : decode method_5_code 23 = .ok (.invokevirtual 13, 3) := by decide +kernel
theorem e50_26 : decode method_5_code 26 = .ok (.aload_n 1, 1) := by decide +kernel
theorem e50_27 : decode method_5_code 27 = .ok (.iconst 1, 1) := by decide +kernel
theorem e50_28 : decode method_5_code 28 = .ok (.caload, 1) := by decide +kernel
theorem e50_29 : decode method_5_code 29 = .ok (.if_icmp .ne 39, 3) := by decide +kernel
theorem e36_99 : decode method_3_code 99 = .ok (.new 8, 3) := by decide +kernel
theorem e36_102 : decode method_3_code 102 = .ok (.dup, 1) := by decide +kernel
theorem e36_103 : decode method_3_code 103 = .ok (.iconst 4, 1) := by decide +kernel
theorem e36_104 : decode method_3_code 104 = .ok (.newarray .char, 2) := by decide +kernel
theorem e36_106 : decode method_3_code 106 = .ok (.dup, 1) := by decide +kernel
theorem e36_107 : decode method_3_code 107 = .ok (.iconst 0, 1) := by decide +kernel
theorem e36_108 : decode method_3_code 108 = .ok (.aload_n 1, 1) := by decide +kernel
theorem e36_109 : decode method_3_code 109 = .ok (.iconst 0, 1) := by decide +kernel
theorem e36_110 : decode method_3_code 110 = .ok (.caload, 1) := by decide +kernel
theorem e36_111 : decode method_3_code 111 = .ok (.castore, 1) := by decide +kernel
theorem e36_112 : decode method_3_code 112 = .ok (.dup, 1) := by decide +kernel
theorem e36_113 : decode method_3_code 113 = .ok (.iconst 1, 1) := by decide +kernel
theorem e36_114 : decode method_3_code 114 = .ok (.aload_n 1, 1) := by decide +kernel
theorem e36_115 : decode method_3_code 115 = .ok (.iconst 1, 1) := by decide +kernel
theorem e36_116 : decode method_3_code 116 = .ok (.caload, 1) := by decide +kernel
theorem e36_117 : decode method_3_code 117 = .ok (.castore, 1) := by decide +kernel
theorem e36_118 : decode method_3_code 118 = .ok (.dup, 1) := by decide +kernel
theorem e36_119 : decode method_3_code 119 = .ok (.iconst 2, 1) := by decide +kernel
theorem e36_120 : decode method_3_code 120 = .ok (.aload_n 1, 1) := by decide +kernel
theorem e36_121 : decode method_3_code 121 = .ok (.iconst 2, 1) := by decide +kernel
theorem e36_122 : decode method_3_code 122 = .ok (.caload, 1) := by decide +kernel
theorem e36_123 : decode method_3_code 123 = .ok (.castore, 1) := by decide +kernel
theorem e36_124 : decode method_3_code 124 = .ok (.dup, 1) := by decide +kernel
theorem e36_125 : decode method_3_code 125 = .ok (.iconst 3, 1) := by decide +kernel
theorem e36_126 : decode method_3_code 126 = .ok (.aload_n 1, 1) := by decide +kernel
theorem e36_127 : decode method_3_code 127 = .ok (.iconst 3, 1) := by decide +kernel
theorem e36_128 : decode method_3_code 128 = .ok (.caload, 1) := by decide +kernel
theorem e36_129 : decode method_3_code 129 = .ok (.castore, 1) := by decide +kernel
theorem e36_130 : decode method_3_code 130 = .ok (.invokespecial 10, 3) := by decide +kernel
theorem e36_133 : decode method_3_code 133 = .ok (.areturn, 1) := by decide +kernel
theorem e42_67 : decode method_4_code 67 = .ok (.iinc 2 (-1), 3) := by decide +kernel
theorem e50_37 : decode method_5_code 37 = .ok (.aload_n 0, 1) := by decide +kernel
theorem e50_38 : decode method_5_code 38 = .ok (.iconst 2, 1) := by decide +kernel
theorem e50_39 : decode method_5_code 39 = .ok (.invokevirtual 13, 3) := by decide +kernel
theorem e50_42 : decode method_5_code 42 = .ok (.aload_n 1, 1) := by decide +kernel
theorem e50_43 : decode method_5_code 43 = .ok (.iconst 2, 1) := by decide +kernel
theorem e50_44 : decode method_5_code 44 = .ok (.caload, 1) := by decide +kernel
theorem e50_45 : decode method_5_code 45 = .ok (.if_icmp .ne 23, 3) := by decide +kernel
theorem pd0 : parseMethodDescriptor "(I)I" = some ⟨[.int], (some .int)⟩ := by decide +kernel
theorem pd1 : parseMethodDescriptor "(I)[B" = some ⟨[.int], (some (.array .byte))⟩ := by decide +kernel
theorem pd2 : parseMethodDescriptor "([BII)V" = some ⟨[(.array .byte), .int, .int], none⟩ := by decide +kernel
theorem pd3 : parseMethodDescriptor "([CI[BII)I" = some ⟨[(.array .char), .int, (.array .byte), .int, .int], (some .int)⟩ := by decide +kernel
theorem pd4 : parseMethodDescriptor "([CII)[B" = some ⟨[(.array .char), .int, .int], (some (.array .byte))⟩ := by decide +kernel
theorem pd5 : parseMethodDescriptor "([BI)C" = some ⟨[(.array .byte), .int], (some .char)⟩ := by decide +kernel
theorem pd6 : parseMethodDescriptor "([BI)B" = some ⟨[(.array .byte), .int], (some .byte)⟩ := by decide +kernel
theorem pd7 : parseMethodDescriptor "([CIILjava/lang/Void;)V" = some ⟨[(.array .char), .int, .int, (.object "java/lang/Void")], none⟩ := by decide +kernel
theorem pd8 : parseMethodDescriptor "()B" = some ⟨[], (some .byte)⟩ := by decide +kernel
theorem pd9 : parseMethodDescriptor "(IILjava/util/function/BiFunction;)I" = some ⟨[.int, .int, (.object "java/util/function/BiFunction")], (some .int)⟩ := by decide +kernel
theorem pd10 : parseMethodDescriptor "(II)V" = some ⟨[.int, .int], none⟩ := by decide +kernel
theorem pd11 : parseMethodDescriptor "([B)I" = some ⟨[(.array .byte)], (some .int)⟩ := by decide +kernel
theorem pd12 : parseMethodDescriptor "(I[B)V" = some ⟨[.int, (.array .byte)], none⟩ := by decide +kernel
theorem pd13 : parseMethodDescriptor "()Z" = some ⟨[], (some .boolean)⟩ := by decide +kernel
theorem pd14 : parseMethodDescriptor "(II)I" = some ⟨[.int, .int], (some .int)⟩ := by decide +kernel
theorem pd15 : parseMethodDescriptor "([BII)[B" = some ⟨[(.array .byte), .int, .int], (some (.array .byte))⟩ := by decide +kernel
theorem pd16 : parseMethodDescriptor "([BB)V" = some ⟨[(.array .byte), .byte], none⟩ := by decide +kernel
theorem pd17 : parseMethodDescriptor "(IIILjava/util/function/BiFunction;)I" = some ⟨[.int, .int, .int, (.object "java/util/function/BiFunction")], (some .int)⟩ := by decide +kernel
theorem pd18 : parseMethodDescriptor "(III)I" = some ⟨[.int, .int, .int], (some .int)⟩ := by decide +kernel
theorem pd19 : parseMethodDescriptor "(II[B)V" = some ⟨[.int, .int, (.array .byte)], none⟩ := by decide +kernel
theorem pd20 : parseMethodDescriptor "([BI[BII)I" = some ⟨[(.array .byte), .int, (.array .byte), .int, .int], (some .int)⟩ := by decide +kernel
theorem pd21 : parseMethodDescriptor "()I" = some ⟨[], (some .int)⟩ := by decide +kernel
theorem pd22 : parseMethodDescriptor "(III)V" = some ⟨[.int, .int, .int], none⟩ := by decide +kernel
theorem pd23 : parseMethodDescriptor "([BII)Ljava/lang/String;" = some ⟨[(.array .byte), .int, .int], (some (.object "java/lang/String"))⟩ := by decide +kernel
theorem pd24 : parseMethodDescriptor "(I)C" = some ⟨[.int], (some .char)⟩ := by decide +kernel
theorem pd25 : parseMethodDescriptor "([C)V" = some ⟨[(.array .char)], none⟩ := by decide +kernel
theorem pd26 : parseMethodDescriptor "(I[C)Ljava/lang/String;" = some ⟨[.int, (.array .char)], (some (.object "java/lang/String"))⟩ := by decide +kernel
theorem pd27 : parseMethodDescriptor "()V" = some ⟨[], none⟩ := by decide +kernel
theorem pd28 : parseMethodDescriptor "(ILjava/lang/String;)V" = some ⟨[.int, (.object "java/lang/String")], none⟩ := by decide +kernel
theorem pd29 : parseMethodDescriptor "()Ljava/lang/String;" = some ⟨[], (some (.object "java/lang/String"))⟩ := by decide +kernel
theorem pd30 : parseMethodDescriptor "([CI)I" = some ⟨[(.array .char), .int], (some .int)⟩ := by decide +kernel
theorem pd31 : parseMethodDescriptor "(Ljava/lang/Object;)Z" = some ⟨[(.object "java/lang/Object")], (some .boolean)⟩ := by decide +kernel
theorem pd32 : parseMethodDescriptor "(I)Z" = some ⟨[.int], (some .boolean)⟩ := by decide +kernel
theorem pd33 : parseMethodDescriptor "([BIII)I" = some ⟨[(.array .byte), .int, .int, .int], (some .int)⟩ := by decide +kernel
theorem pd34 : parseMethodDescriptor "(II)Ljava/lang/String;" = some ⟨[.int, .int], (some (.object "java/lang/String"))⟩ := by decide +kernel
theorem pd35 : parseMethodDescriptor "(Ljava/lang/String;[CI)Z" = some ⟨[(.object "java/lang/String"), (.array .char), .int], (some .boolean)⟩ := by decide +kernel
theorem pn0 : plainName "java/lang/StringUTF16" = true := by first | (simp [plainName, overriddenIn]; done) | decide +kernel
theorem pn1 : plainName "java/lang/String" = true := by first | (simp [plainName, overriddenIn]; done) | decide +kernel
theorem pn2 : plainName "java/lang/StringLatin1" = true := by first | (simp [plainName, overriddenIn]; done) | decide +kernel
theorem pn3 : plainName "jdk/internal/util/Preconditions" = true := by first | (simp [plainName, overriddenIn]; done) | decide +kernel
theorem pn4 : plainName "java/util/Arrays" = true := by first | (simp [plainName, overriddenIn]; done) | decide +kernel
theorem pn5 : plainName "com/example/elsewhere/elsewhere/SubfieldWithoutSeparatorPinLaw" = true := by first | (simp [plainName, overriddenIn]; done) | decide +kernel
theorem pn6 : plainName "com/example/elsewhere/elsewhere/Field$Subfield" = true := by first | (simp [plainName, overriddenIn]; done) | decide +kernel
theorem pn7 : plainName "java/lang/Record" = true := by first | (simp [plainName, overriddenIn]; done) | decide +kernel
def GlS (Z : State) : Prop := Sta Z Z.heap "java/lang/StringUTF16" "$assertionsDisabled" "Z" (.int 1) ∧ Sta Z Z.heap "java/lang/StringUTF16" "HI_BYTE_SHIFT" "I" (.int 0) ∧ Sta Z Z.heap "java/lang/StringUTF16" "LO_BYTE_SHIFT" "I" (.int 8)
theorem hEW {a0 : Array Value} {Z : State} (hw : Hw a0 Z) : EW Z a0 EL1 := EW.cons (w22 hw) (by decide) (EW.cons (w206 hw) (by decide) (EW.cons (w111 hw) (by decide) (EW.nil)))
theorem hSA {a0 : Array Value} {Z : State} (hw : Hw a0 Z) : ∀ w ∈ Bundle.stringAtoms, w.before a0 Z = true := by
  intro w hq
  simp only [Bundle.stringAtoms, List.mem_cons, List.not_mem_nil, or_false] at hq
  rcases hq with rfl | rfl | rfl | rfl | rfl | rfl | rfl
  · exact (w11 hw)
  · exact (w10 hw)
  · exact (w23 hw)
  · exact (w24 hw)
  · exact (w25 hw)
  · exact (w26 hw)
  · exact (w27 hw)
def sepP (x : Int32) : Prop := x = 59 ∨ x = 44 ∨ x = 58
theorem own_i0 {x : Int32} (h : ¬ x < (0 : Int32)) : 0 ≤ x.toInt := by
  simp only [Int32.lt_iff_toInt_lt, Int32.reduceToInt] at h; omega
theorem own_i1 {x : Int32} (h : ¬ (65535 : Int32) < x) : x.toInt ≤ 65535 := by
  simp only [Int32.lt_iff_toInt_lt, Int32.reduceToInt] at h; omega
theorem own_sub {x y d : Int32} (hd : x - y = d) (hx : 0 ≤ x.toInt ∧ x.toInt ≤ 65535) (hy : 0 ≤ y.toInt ∧ y.toInt ≤ 65535) : d.toInt = x.toInt - y.toInt := by
  have h1 := c_isub x y
  have h2 := rng32 (x - y)
  rw [hd] at h1 h2
  omega
theorem own_or32n (n : Nat) : n ||| 32 = if n / 32 % 2 = 1 then n else n + 32 := by
  have q : n = (n / 32) <<< 5 + n % 32 := by rw [Nat.shiftLeft_eq]; omega
  have q2 : n = (n / 32) <<< 5 ||| n % 32 := by rw [← Nat.shiftLeft_add_eq_or_of_lt (by omega : n % 32 < 2 ^ 5)]; exact q
  have q3 : (n / 32) ||| 1 = if n / 32 % 2 = 1 then n / 32 else n / 32 + 1 := by
    generalize n / 32 = k
    have h1 : k = (k / 2) <<< 1 ||| k % 2 := by rw [← Nat.shiftLeft_add_eq_or_of_lt (by omega : k % 2 < 2 ^ 1), Nat.shiftLeft_eq]; omega
    have h2 : k ||| 1 = (k / 2) <<< 1 ||| 1 := by
      conv => lhs; rw [h1]
      rw [Nat.or_assoc]
      have : k % 2 = 0 ∨ k % 2 = 1 := by omega
      rcases this with t | t <;> rw [t] <;> rfl
    rw [h2, ← Nat.shiftLeft_add_eq_or_of_lt (by omega : 1 < 2 ^ 1), Nat.shiftLeft_eq]
    split <;> omega
  have q4 : n ||| 32 = ((n / 32) ||| 1) <<< 5 ||| n % 32 := by
    conv => lhs; rw [q2]
    rw [Nat.or_assoc, Nat.or_comm (n % 32) 32, ← Nat.or_assoc, show (32 : Nat) = 1 <<< 5 from rfl, ← Nat.shiftLeft_or_distrib]
  rw [q4, q3, ← Nat.shiftLeft_add_eq_or_of_lt (by omega : n % 32 < 2 ^ 5), Nat.shiftLeft_eq]
  split <;> omega
theorem own_or32 {x z : Int32} (hz : x ||| 32 = z) (h0 : 0 ≤ x.toInt) (h1 : x.toInt ≤ 65535) : (x.toInt / 32 % 2 = 1 ∧ z.toInt = x.toInt) ∨ (x.toInt / 32 % 2 = 0 ∧ z.toInt = x.toInt + 32) := by
  subst hz
  have hn := Ow.toNat_rng (n := 65535) h0 h1 (by decide)
  have e1 : (x ||| 32).toBitVec.toNat = x.toBitVec.toNat ||| 32 := by simp
  have e2 := Ow.toInt_small (x := x) hn (by decide)
  have e3 := own_or32n x.toBitVec.toNat
  have hle : (x ||| 32).toBitVec.toNat ≤ 131071 := by rw [e1, e3]; split <;> omega
  rw [Ow.toInt_small hle (by decide), e1, e3, e2]
  split <;> omega
theorem own_i8 {x : Int32} (h0 : ¬ x < (0 : Int32)) (h1 : ¬ (255 : Int32) < x) : (x.toInt < 128 ∧ x.toInt8.toInt32.toInt = x.toInt) ∨ (128 ≤ x.toInt ∧ x.toInt8.toInt32.toInt = x.toInt - 256) := by
  have := Ow.all256 (fun x => decide ((x.toInt < 128 ∧ x.toInt8.toInt32.toInt = x.toInt) ∨ (128 ≤ x.toInt ∧ x.toInt8.toInt32.toInt = x.toInt - 256))) (by decide +kernel) h0 h1
  exact of_decide_eq_true this
theorem own_i255 {x : Int32} (h : ¬ (255 : Int32) < x) : x.toInt ≤ 255 := by
  simp only [Int32.lt_iff_toInt_lt, Int32.reduceToInt] at h; omega
theorem own_nosep {x : Int32} (h : (255 : Int32) < x) : ¬ sepP x := by
  intro q; rcases q with rfl | rfl | rfl <;> exact absurd h (by decide)
theorem own_seplo {x : Int32} (q : sepP x) : ¬ (255 : Int32) < x := by
  rcases q with rfl | rfl | rfl <;> decide
theorem own_seplo0 {x : Int32} (q : x = 32) : ¬ (255 : Int32) < x := by
  rcases q with rfl; decide

variable {l : Launch} {Z : State} {n0 : Nat} {a0 : Array Value} {cz : Int32} {sf : Value}
set_option maxRecDepth 65536 in
set_option maxHeartbeats 40000000 in
theorem gcC (hw : Hw a0 Z) (G : Ow.Glo Z cz sf) (GS : GlS Z) {h0 : Heap} (O0 : Old Z n0 h0) {a d : Nat} {ka kd : ClassId} {cs : List Int32} (A : Arv Z h0 a ka .char (Int32.ofNat cs.length) (Ow.CA cs) (.int 0)) (D : Arv Z h0 d kd .byte (Int32.ofNat cs.length) [] (.int 0)) (hd : n0 ≤ d) (hne : a ≠ d) (hN : cs.length ≤ 64) :
    Ow.Con l Z EL1 n0 my0 jdk_52_method_21_code 7 (Option.some Jvm.ClassFile.FieldType.int) [] ({ frames := 0, cells := 0, slots := 0, locals := 0 } : Room) #[(.ref a), (.int 0), (.ref d), (.int 0), (.int (Int32.ofNat cs.length))] [d] h0 (fun v h S' => (v = some (.int (Int32.ofNat cs.length)) ∧ Keep h0 h [d] ∧ Ow.Lat cs ∧ Arv Z h d kd .byte (Int32.ofNat cs.length) (Ow.LB cs) (.int 0) ∧ S' = []) ∨ (∃ j : Nat, ∃ x : Int32, v = some (.int (Int32.ofNat j)) ∧ Keep h0 h [d] ∧ cs[j]? = some x ∧ (255 : Int32) < x ∧ S' = [])) := by
 refine Ow.Con.enter (Ls := #[.val (.ref a), .val (.int 0), .val (.ref d), .val (.int 0), .val (.int (Int32.ofNat cs.length)), .unset, .unset]) (plainFor_of_name pn0) O0 (hEW hw) (hSA hw) ?_
 intro p e s m below meth c B
 have z0 := Ow.old_le O0
 refine Ow.iconst (pc' := 1) (x := 0) B e0_0 ?_
 refine Ow.istore (pc' := 3) (Ls' := #[.val (.ref a), .val (.int (Int32.ofNat 0)), .val (.ref d), .val (.int (Int32.ofNat 0)), .val (.int (Int32.ofNat cs.length)), .val (.int (Int32.ofNat 0)), .unset]) B e0_1 ?_
 refine Ow.Go.loop (fun i (x : Nat × Slot) h => x.1 + i = cs.length ∧ Keep h0 h [d] ∧ Arv Z h d kd .byte (Int32.ofNat cs.length) ((Ow.LB cs).take x.1) (.int 0) ∧ (∀ y ∈ cs.take x.1, ¬ (255 : Int32) < y) ∧ Ow.UI x.2) (fun x => #[.val (.ref a), .val (.int (Int32.ofNat x.1)), .val (.ref d), .val (.int (Int32.ofNat x.1)), .val (.int (Int32.ofNat cs.length)), .val (.int (Int32.ofNat x.1)), x.2]) ?_ cs.length (0, .unset) ⟨by omega, Keep.refl _ _, D.pad (fun i => by simp), by simp, Or.inl rfl⟩
 intro i ⟨j, u⟩ h ⟨hj, K, D1, hl, hu⟩ ih
 dsimp only at hj D1 hl hu ⊢
 have zK := K.1
 refine Ow.iload (pc' := 5) B e0_3 (Ow.iload (pc' := 7) B e0_5 ?_)
 by_cases c1 : j < cs.length
 ·obtain ⟨x, hx⟩ : ∃ x, cs[j]? = some x := ⟨_, List.getElem?_eq_getElem c1⟩
  refine Ow.icmpF (pc' := 10) B e0_7 (tlt (Ow.nlT c1)).2.1 ?_
  refine Ow.aloadN (pc' := 11) B e0_10 (Ow.iloadN (pc' := 12) B e0_11 ?_)
  refine Ow.caload (pc' := 13) (v := .int x) B e0_12 (A.keep K (Ow.ninS hne Ow.nin0)) ⟨Ow.nn, Ow.nlT c1⟩ (by rw [Ow.nc]; exact Ow.gD (Ow.CAa hx)) ?_
  refine Ow.istore (pc' := 15) (Ls' := #[.val (.ref a), .val (.int (Int32.ofNat j)), .val (.ref d), .val (.int (Int32.ofNat j)), .val (.int (Int32.ofNat cs.length)), .val (.int (Int32.ofNat j)), .val (.int x)]) (hl := by rcases hu with rfl | ⟨y, rfl⟩ <;> rfl) B e0_13 (Ow.iload (pc' := 17) B e0_15 (Ow.sipush (pc' := 20) (x := 255) B e0_17 ?_))
  by_cases c2 : (255 : Int32) < x
  ·refine Ow.icmpF (pc' := 23) B e0_20 (tlt c2).2.2.2 (Ow.iload (pc' := 25) B e0_23 ?_)
   exact Ow.retI (S' := []) (t := .int) B e0_25 (Or.inr ⟨j, x, rfl, K, hx, c2, rfl⟩)
  ·refine Ow.icmpT (pc' := 26) B e0_20 (flt c2).2.2.2 ?_
   refine Ow.aloadN (pc' := 27) B e0_26 (Ow.iloadN (pc' := 28) B e0_27 (Ow.iload (pc' := 30) B e0_28 (Ow.i2b (pc' := 31) (z := x.toInt8.toInt32) B e0_30 ?_)))
   refine Ow.bastore (pc' := 32) (i := j) B e0_31 (D1.pad (Ow.pad1 _ _)) ⟨Ow.nn, Ow.nlT c1⟩ (by simp) ?_ (hlt := by simp; omega) (hi := Ow.nc)
   intro h' K' D2
   rw [Ow.nar_b, Ow.tk (Ow.LBa hx)] at D2
   refine Ow.iinc (pc' := 35) (y := Int32.ofNat (j + 1)) (hy := (Ow.nS j).symm) (Ls' := #[.val (.ref a), .val (.int (Int32.ofNat (j + 1))), .val (.ref d), .val (.int (Int32.ofNat j)), .val (.int (Int32.ofNat cs.length)), .val (.int (Int32.ofNat j)), .val (.int x)]) B e0_32 ?_
   refine Ow.iinc (pc' := 38) (y := Int32.ofNat (j + 1)) (hy := (Ow.nS j).symm) (Ls' := #[.val (.ref a), .val (.int (Int32.ofNat (j + 1))), .val (.ref d), .val (.int (Int32.ofNat (j + 1))), .val (.int (Int32.ofNat cs.length)), .val (.int (Int32.ofNat j)), .val (.int x)]) B e0_35 ?_
   refine Ow.iinc (pc' := 41) (y := Int32.ofNat (j + 1)) (hy := (Ow.nS j).symm) (Ls' := #[.val (.ref a), .val (.int (Int32.ofNat (j + 1))), .val (.ref d), .val (.int (Int32.ofNat (j + 1))), .val (.int (Int32.ofNat cs.length)), .val (.int (Int32.ofNat (j + 1))), .val (.int x)]) B e0_38 ?_
   refine Ow.goto (pc' := 3) B e0_41 ?_
   exact ih (i - 1) (j + 1, .val (.int x)) h' (by omega) ⟨by show j + 1 + (i - 1) = _; omega, K.trans K' (allS (Or.inl (by simp)) all0), D2, Ow.take1 hx hl c2, Or.inr ⟨_, rfl⟩⟩
 ·have e : j = cs.length := by omega
  refine Ow.icmpT (pc' := 44) B e0_7 (flt (Ow.nlF c1)).2.1 (Ow.iload (pc' := 46) B e0_44 ?_)
  rw [e, Ow.takeN (by simp)] at D1
  rw [e, Ow.takeN (Nat.le_refl _)] at hl
  exact Ow.retI (S' := []) (t := .int) B e0_46 (Or.inl ⟨rfl, K, hl, D1, rfl⟩)
set_option maxRecDepth 65536 in
set_option maxHeartbeats 40000000 in
theorem gNbl (hw : Hw a0 Z) (G : Ow.Glo Z cz sf) (GS : GlS Z) {h0 : Heap} (O0 : Old Z n0 h0) {n : Nat} (hn : n ≤ 64) :
    Ow.Con l Z EL1 n0 my1 jdk_52_method_3_code 1 (Option.some Jvm.ClassFile.FieldType.int) [] ({ frames := 0, cells := 0, slots := 0, locals := 0 } : Room) #[(.int (Int32.ofNat n))] [] h0 (fun v h S' => v = some (.int (Int32.ofNat (2 * n))) ∧ h = h0 ∧ S' = []) := by
 refine Ow.Con.enter (Ls := #[.val (.int (Int32.ofNat n))]) (plainFor_of_name pn0) O0 (hEW hw) (hSA hw) ?_
 intro p e s m below meth c B
 have z0 := Ow.old_le O0
 refine Ow.iloadN (pc' := 1) B e1_0 ?_
 refine Ow.ifT (pc' := 12) B e1_1 (flt (Ow.nn)).2.1 ?_
 refine Ow.iloadN (pc' := 13) B e1_12 ?_
 refine Ow.ldcInt (pc' := 15) B e1_13 (w186 hw) ?_
 refine Ow.icmpT (pc' := 55) B e1_15 (tlt (Ow.nBig)).1 ?_
 refine Ow.iloadN (pc' := 56) B e1_55 ?_
 refine Ow.iconst (pc' := 57) (x := 1) B e1_56 ?_
 refine Ow.ishl (pc' := 58) (z := (Int32.ofNat (2 * n))) (hz := (Ow.nD hn)) B e1_57 ?_
 exact Ow.retI (S' := []) (t := .int) B e1_58 (⟨rfl, rfl, rfl⟩)
set_option maxRecDepth 65536 in
set_option maxHeartbeats 40000000 in
theorem gNbf (hw : Hw a0 Z) (G : Ow.Glo Z cz sf) (GS : GlS Z) {h0 : Heap} (O0 : Old Z n0 h0) {n : Nat} (hn : n ≤ 4) :
    Ow.Con l Z EL1 n0 my2 jdk_52_method_2_code 1 (Option.some (Jvm.ClassFile.FieldType.array Jvm.ClassFile.FieldType.byte)) [] ({ frames := 1, cells := 1, slots := 8, locals := 12 } : Room) #[(.int (Int32.ofNat n))] [] h0 (fun v h S' => ∃ r : Nat, ∃ kr : ClassId, v = some (.ref r) ∧ Keep h0 h [] ∧ h0.size ≤ r ∧ Arv Z h r kr .byte (Int32.ofNat (2 * n)) [] (.int 0) ∧ S' = [r]) := by
 refine Ow.Con.enter (Ls := #[.val (.int (Int32.ofNat n))]) (plainFor_of_name pn0) O0 (hEW hw) (hSA hw) ?_
 intro p e s m below meth c B
 have z0 := Ow.old_le O0
 refine Ow.iloadN (pc' := 1) B e2_0 ?_
 refine Ow.Go.old (fun o1 => ?_)
 refine Ow.callStatic (pc' := 4) (W := 0) (k' := 0) (n' := 0) (argsL := [(.int (Int32.ofNat n))]) (rest := []) B e2_1 (w183 hw) (w184 hw) (w81 hw) (w185 hw) (gNbl hw G GS (n := n) o1 (by omega)) pd0 ?_
 intro vq2 h3 S4 q2 zh3
 obtain ⟨rfl, rfl, rfl⟩ := q2
 refine Ow.Go.nr (S' := []) (st' := [(.int (Int32.ofNat (2 * n)))]) ?_
 refine Ow.newArr (pc' := 6) (k' := 1) (n' := 8) (cap := 8) B e2_4 (w23 hw) Ow.nn (by rw [Ow.nc]; omega) ?_
 intro h6 a5 ka5 ga5 ba5 Kh6 V0a5
 have zh6 := Kh6.1
 have la5 : (a5 : Nat) < h6.size := V0a5.lt
 exact Ow.retA (S' := [a5]) (t := (.array .byte)) B e2_6 (⟨a5, ka5, rfl, ((Keep.refl _ []).trans Kh6 (fun _ q => nomatch q)), (by omega), V0a5, rfl⟩)
set_option maxRecDepth 65536 in
set_option maxHeartbeats 40000000 in
theorem gPut (hw : Hw a0 Z) (G : Ow.Glo Z cz sf) (GS : GlS Z) {h0 : Heap} (O0 : Old Z n0 h0) {d j : Nat} {kd : ClassId} {x : Int32} {cs : List Int32} (D : Arv Z h0 d kd .byte (Int32.ofNat (2 * cs.length)) ((Ow.UB cs).take (2 * j)) (.int 0)) (hx : cs[j]? = some x) (hd : n0 ≤ d) (hN : cs.length ≤ 64) :
    Ow.Con l Z EL1 n0 my3 jdk_52_method_4_code 3 (Option.none : Option Jvm.ClassFile.FieldType) [] ({ frames := 0, cells := 0, slots := 0, locals := 0 } : Room) #[(.ref d), (.int (Int32.ofNat j)), (.int x)] [d] h0 (fun v h S' => v = none ∧ Keep h0 h [d] ∧ Arv Z h d kd .byte (Int32.ofNat (2 * cs.length)) ((Ow.UB cs).take (2 * (j + 1))) (.int 0) ∧ S' = []) := by
 refine Ow.Con.enter (Ls := #[.val (.ref d), .val (.int (Int32.ofNat j)), .val (.int x)]) (plainFor_of_name pn0) O0 (hEW hw) (hSA hw) ?_
 intro p e s m below meth c B
 have z0 := Ow.old_le O0
 have ld : (d : Nat) < h0.size := D.lt
 have hj := (List.getElem?_eq_some_iff.mp hx).1
 have hU := Ow.UBn cs
 refine Ow.getstatic (pc' := 3) B e3_0 (w190 hw) Via.refl GS.1 ?_
 refine Ow.ifT (pc' := 28) B e3_3 (by decide) ?_
 refine Ow.iloadN (pc' := 29) B e3_28 ?_
 refine Ow.iconst (pc' := 30) (x := 1) B e3_29 ?_
 refine Ow.ishl (pc' := 31) (z := (Int32.ofNat (2 * j))) (hz := (Ow.nD (by omega))) B e3_30 ?_
 refine Ow.istoreN (pc' := 32) (Ls' := #[.val (.ref d), .val (.int (Int32.ofNat (2 * j))), .val (.int x)]) B e3_31 ?_
 refine Ow.aloadN (pc' := 33) B e3_32 ?_
 refine Ow.iloadN (pc' := 34) B e3_33 ?_
 refine Ow.iinc (pc' := 37) (y := (Int32.ofNat (2 * j + 1))) (Ls' := #[.val (.ref d), .val (.int (Int32.ofNat (2 * j + 1))), .val (.int x)]) (hy := ((Ow.nS _)).symm) B e3_34 ?_
 refine Ow.iloadN (pc' := 38) B e3_37 ?_
 refine Ow.getstatic (pc' := 41) B e3_38 (w191 hw) Via.refl GS.2.1 ?_
 refine Ow.ishr (pc' := 42) (z := x) (hz := (Ow.shr0 _)) B e3_41 ?_
 refine Ow.i2b (pc' := 43) (z := x.toInt8.toInt32) B e3_42 ?_
 refine Ow.bastore (pc' := 44) (i := (2 * j)) B e3_43 (D.pad (Ow.pad1 _ _)) ⟨Ow.nn, Ow.nlT (by omega)⟩ (by simp) ?_ (hlt := by rw [List.length_append, List.length_take, hU]; simp; omega) (hi := Ow.nc)
 intro h1 Kh1 V2
 have zh1 := Kh1.1
 rw [Ow.nar_b] at V2
 refine Ow.aloadN (pc' := 45) B e3_44 ?_
 refine Ow.iloadN (pc' := 46) B e3_45 ?_
 refine Ow.iloadN (pc' := 47) B e3_46 ?_
 refine Ow.getstatic (pc' := 50) B e3_47 (w192 hw) Via.refl GS.2.2 ?_
 refine Ow.ishr (pc' := 51) (z := (x >>> ((8 : Int32) &&& 31))) B e3_50 ?_
 refine Ow.i2b (pc' := 52) (z := (x >>> ((8 : Int32) &&& 31)).toInt8.toInt32) B e3_51 ?_
 refine Ow.bastore (pc' := 53) (i := (2 * j + 1)) B e3_52 (V2.pad (Ow.pad1 _ _)) ⟨Ow.nn, Ow.nlT (by omega)⟩ (by simp) ?_ (hlt := by rw [List.length_append, List.length_set, List.length_append, List.length_take, hU]; simp; omega) (hi := Ow.nc)
 intro h3 Kh3 V4
 have zh3 := Kh3.1
 rw [Ow.nar_b] at V4
 have F := V4
 rw [Ow.UBt hx] at F
 exact Ow.retV (S' := []) B e3_53 (⟨rfl, (((Keep.refl _ [d]).trans Kh1 (allS (Or.inl (by simp)) all0)).trans Kh3 (allS (Or.inl (by simp)) all0)), F, rfl⟩)
set_option maxRecDepth 65536 in
set_option maxHeartbeats 40000000 in
theorem gGetc (hw : Hw a0 Z) (G : Ow.Glo Z cz sf) (GS : GlS Z) {h0 : Heap} (O0 : Old Z n0 h0) {t j : Nat} {kt : ClassId} {x : Int32} {cs : List Int32} (D : Arv Z h0 t kt .byte (Int32.ofNat (2 * cs.length)) (Ow.UB cs) (.int 0)) (hx : cs[j]? = some x) (r0 : ¬ x < (0 : Int32)) (r1 : ¬ (65535 : Int32) < x) (hN : cs.length ≤ 64) :
    Ow.Con l Z EL1 n0 my4 jdk_52_method_5_code 2 (Option.some Jvm.ClassFile.FieldType.char) [] ({ frames := 0, cells := 0, slots := 0, locals := 0 } : Room) #[(.ref t), (.int (Int32.ofNat j))] [] h0 (fun v h S' => v = some (.int x) ∧ h = h0 ∧ S' = []) := by
 refine Ow.Con.enter (Ls := #[.val (.ref t), .val (.int (Int32.ofNat j))]) (plainFor_of_name pn0) O0 (hEW hw) (hSA hw) ?_
 intro p e s m below meth c B
 have z0 := Ow.old_le O0
 have hj := (List.getElem?_eq_some_iff.mp hx).1
 have hU := Ow.UBa (fun x : Int32 => Value.int x.toInt8.toInt32) (fun x : Int32 => Value.int (x >>> ((8 : Int32) &&& 31)).toInt8.toInt32) cs j hx
 refine Ow.getstatic (pc' := 3) B e4_0 (w190 hw) Via.refl GS.1 ?_
 refine Ow.ifT (pc' := 28) B e4_3 (by decide) ?_
 refine Ow.iloadN (pc' := 29) B e4_28 ?_
 refine Ow.iconst (pc' := 30) (x := 1) B e4_29 ?_
 refine Ow.ishl (pc' := 31) (z := (Int32.ofNat (2 * j))) (hz := (Ow.nD (by omega))) B e4_30 ?_
 refine Ow.istoreN (pc' := 32) (Ls' := #[.val (.ref t), .val (.int (Int32.ofNat (2 * j)))]) B e4_31 ?_
 refine Ow.aloadN (pc' := 33) B e4_32 ?_
 refine Ow.iloadN (pc' := 34) B e4_33 ?_
 refine Ow.iinc (pc' := 37) (y := (Int32.ofNat (2 * j + 1))) (Ls' := #[.val (.ref t), .val (.int (Int32.ofNat (2 * j + 1)))]) (hy := ((Ow.nS _)).symm) B e4_34 ?_
 refine Ow.baload (pc' := 38) (v := (.int x.toInt8.toInt32)) B e4_37 D ⟨Ow.nn, Ow.nlT (by omega)⟩ (by rw [Ow.nc]; exact Ow.gD hU.1) ?_
 refine Ow.sipush (pc' := 41) (x := 255) B e4_38 ?_
 refine Ow.iand (pc' := 42) (z := (x.toInt8.toInt32 &&& (255 : Int32))) B e4_41 ?_
 refine Ow.getstatic (pc' := 45) B e4_42 (w191 hw) Via.refl GS.2.1 ?_
 refine Ow.ishl (pc' := 46) (z := ((x.toInt8.toInt32 &&& (255 : Int32)) <<< ((0 : Int32) &&& 31))) B e4_45 ?_
 refine Ow.aloadN (pc' := 47) B e4_46 ?_
 refine Ow.iloadN (pc' := 48) B e4_47 ?_
 refine Ow.baload (pc' := 49) (v := (.int (x >>> ((8 : Int32) &&& 31)).toInt8.toInt32)) B e4_48 D ⟨Ow.nn, Ow.nlT (by omega)⟩ (by rw [Ow.nc]; exact Ow.gD hU.2) ?_
 refine Ow.sipush (pc' := 52) (x := 255) B e4_49 ?_
 refine Ow.iand (pc' := 53) (z := ((x >>> ((8 : Int32) &&& 31)).toInt8.toInt32 &&& (255 : Int32))) B e4_52 ?_
 refine Ow.getstatic (pc' := 56) B e4_53 (w192 hw) Via.refl GS.2.2 ?_
 refine Ow.ishl (pc' := 57) (z := (((x >>> ((8 : Int32) &&& 31)).toInt8.toInt32 &&& (255 : Int32)) <<< ((8 : Int32) &&& 31))) B e4_56 ?_
 refine Ow.ior (pc' := 58) (z := x) (hz := (Ow.u16 (r0) (r1))) B e4_57 ?_
 refine Ow.i2c (pc' := 59) (z := x) (hz := (Ow.c_id16 (r0) (r1))) B e4_58 ?_
 exact Ow.retI (S' := []) (t := .char) (hnn := (Ow.cnarrow (Ow.nar_id16 (r0) (r1)))) B e4_59 (⟨rfl, rfl, rfl⟩)
set_option maxRecDepth 65536 in
set_option maxHeartbeats 40000000 in
theorem gTob (hw : Hw a0 Z) (G : Ow.Glo Z cz sf) (GS : GlS Z) {h0 : Heap} (O0 : Old Z n0 h0) {a : Nat} {ka : ClassId} {cs : List Int32} (A : Arv Z h0 a ka .char (Int32.ofNat cs.length) (Ow.CA cs) (.int 0)) (hC : cs.length ≤ 4) (hN : cs.length ≤ 64) :
    Ow.Con l Z EL1 n0 my5 jdk_52_method_14_code 5 (Option.some (Jvm.ClassFile.FieldType.array Jvm.ClassFile.FieldType.byte)) [] ({ frames := 2, cells := 1, slots := 8, locals := 24 } : Room) #[(.ref a), (.int 0), (.int (Int32.ofNat cs.length))] [] h0 (fun v h S' => ∃ r : Nat, ∃ kr : ClassId, v = some (.ref r) ∧ Keep h0 h [] ∧ h0.size ≤ r ∧ Arv Z h r kr .byte (Int32.ofNat (2 * cs.length)) (Ow.UB cs) (.int 0) ∧ S' = [r]) := by
 refine Ow.Con.enter (Ls := #[.val (.ref a), .val (.int 0), .val (.int (Int32.ofNat cs.length)), .unset, .unset]) (plainFor_of_name pn0) O0 (hEW hw) (hSA hw) ?_
 intro p e s m below meth c B
 have z0 := Ow.old_le O0
 have la : (a : Nat) < h0.size := A.lt
 refine Ow.iloadN (pc' := 1) B e5_0 (Ow.Go.old fun o1 => ?_)
 refine Ow.callStatic (pc' := 4) (W := 0) (k' := 1) (n' := 8) (argsL := [.int (Int32.ofNat cs.length)]) (rest := []) B e5_1 (w180 hw) (w181 hw) (w81 hw) (w182 hw) (gNbf hw G GS (n := cs.length) o1 hC) pd1 ?_
 intro v h1 S1 ⟨d, kd, e1, K1, bd, D, e2⟩ zh1
 subst e1 e2
 refine Ow.Go.norm (S' := [d]) (st' := [(.ref d)]) (fun _ q => q) rfl ?_
 refine Ow.astoreN (pc' := 5) (Ls' := #[.val (.ref a), .val (.int 0), .val (.int (Int32.ofNat cs.length)), .val (.ref d), .unset]) B e5_4 (Ow.iconst (pc' := 6) (x := 0) B e5_5 ?_)
 refine Ow.istore (pc' := 8) (Ls' := #[.val (.ref a), .val (.int (Int32.ofNat 0)), .val (.int (Int32.ofNat cs.length)), .val (.ref d), .val (.int (Int32.ofNat 0))]) B e5_6 ?_
 refine Ow.Go.loop (fun i (x : Nat) h => x + i = cs.length ∧ Keep h0 h [] ∧ d < h.size ∧ Arv Z h d kd .byte (Int32.ofNat (2 * cs.length)) ((Ow.UB cs).take (2 * x)) (.int 0)) (fun x => #[.val (.ref a), .val (.int (Int32.ofNat x)), .val (.int (Int32.ofNat cs.length)), .val (.ref d), .val (.int (Int32.ofNat x))]) ?_ cs.length 0 ⟨by omega, K1, D.lt, D.pad (fun i => by simp)⟩
 intro i j h ⟨hj, K, ld, D1⟩ ih
 dsimp only at hj D1 ⊢
 have zK := K.1
 refine Ow.iload (pc' := 10) B e5_8 (Ow.iloadN (pc' := 11) B e5_10 ?_)
 by_cases c1 : j < cs.length
 ·obtain ⟨x, hx⟩ : ∃ x, cs[j]? = some x := ⟨_, List.getElem?_eq_getElem c1⟩
  refine Ow.icmpF (pc' := 14) B e5_11 (tlt (Ow.nlT c1)).2.1 ?_
  refine Ow.aloadN (pc' := 15) B e5_14 (Ow.iload (pc' := 17) B e5_15 (Ow.aloadN (pc' := 18) B e5_17 (Ow.iloadN (pc' := 19) B e5_18 ?_)))
  refine Ow.caload (pc' := 20) (v := .int x) B e5_19 (A.keep K Ow.nin0) ⟨Ow.nn, Ow.nlT c1⟩ (by rw [Ow.nc]; exact Ow.gD (Ow.CAa hx)) ?_
  refine Ow.Go.old fun o2 => ?_
  refine Ow.callStatic (pc' := 23) (W := 0) (k' := 1) (n' := 8) (argsL := [.ref d, .int (Int32.ofNat j), .int x]) (rest := []) B e5_20 (w187 hw) (w188 hw) (w81 hw) (w189 hw) (gPut hw G GS o2 D1 hx (by omega) hN) pd2 ?_
  intro v h2 S2 ⟨e1, K2, D2, e2⟩ zh2
  subst e1 e2
  refine Ow.Go.norm (S' := [d]) (st' := []) (fun _ q => q) rfl ?_
  refine Ow.iinc (pc' := 26) (y := Int32.ofNat (j + 1)) (hy := (Ow.nS j).symm) (Ls' := #[.val (.ref a), .val (.int (Int32.ofNat (j + 1))), .val (.int (Int32.ofNat cs.length)), .val (.ref d), .val (.int (Int32.ofNat j))]) B e5_23 ?_
  refine Ow.iinc (pc' := 29) (y := Int32.ofNat (j + 1)) (hy := (Ow.nS j).symm) (Ls' := #[.val (.ref a), .val (.int (Int32.ofNat (j + 1))), .val (.int (Int32.ofNat cs.length)), .val (.ref d), .val (.int (Int32.ofNat (j + 1)))]) B e5_26 ?_
  refine Ow.goto (pc' := 8) B e5_29 ?_
  exact ih (i - 1) (j + 1) h2 (by omega) ⟨by omega, K.trans K2 (allS (Or.inr (by omega)) all0), D2.lt, D2⟩
 ·have e : j = cs.length := by omega
  refine Ow.icmpT (pc' := 32) B e5_11 (flt (Ow.nlF c1)).2.1 (Ow.aloadN (pc' := 33) B e5_32 ?_)
  rw [e, Ow.takeN (Nat.le_of_eq (Ow.UBn cs))] at D1
  exact Ow.retA (S' := [d]) (t := (.array .byte)) B e5_33 ⟨d, kd, rfl, K, bd, D1, rfl⟩
set_option maxRecDepth 65536 in
set_option maxHeartbeats 40000000 in
theorem gCC (hw : Hw a0 Z) (G : Ow.Glo Z cz sf) (GS : GlS Z) {h0 : Heap} (O0 : Old Z n0 h0) {a : Nat} {ka : ClassId} {cs : List Int32} (A : Arv Z h0 a ka .char (Int32.ofNat cs.length) (Ow.CA cs) (.int 0)) (hR : Ow.Rng cs) (hC : cs.length ≤ 4) (hN : cs.length ≤ 64) :
    Ow.Con l Z EL1 n0 my6 jdk_52_method_16_code 6 (Option.some (Jvm.ClassFile.FieldType.array Jvm.ClassFile.FieldType.byte)) [] ({ frames := 3, cells := 2, slots := 12, locals := 40 } : Room) #[(.ref a), (.int 0), (.int (Int32.ofNat cs.length))] [] h0 (fun v h S' => (∃ r : Nat, ∃ kr : ClassId, v = some (.ref r) ∧ Keep h0 h [] ∧ h0.size ≤ r ∧ Ow.Lat cs ∧ Arv Z h r kr .byte (Int32.ofNat cs.length) (Ow.LB cs) (.int 0) ∧ S' = [r]) ∨ (∃ r : Nat, ∃ kr : ClassId, ∃ x : Int32, v = some (.ref r) ∧ Keep h0 h [] ∧ h0.size ≤ r ∧ x ∈ cs ∧ (255 : Int32) < x ∧ Arv Z h r kr .byte (Int32.ofNat (2 * cs.length)) (Ow.UB cs) (.int 0) ∧ S' = [r])) := by
 refine Ow.Con.enter (Ls := #[.val (.ref a), .val (.int 0), .val (.int (Int32.ofNat cs.length)), .unset, .unset, .unset]) (plainFor_of_name pn0) O0 (hEW hw) (hSA hw) ?_
 intro p e s m below meth c B
 have z0 := Ow.old_le O0
 have la : (a : Nat) < h0.size := A.lt
 refine Ow.iloadN (pc' := 1) B e6_0 ?_
 refine Ow.newArr (pc' := 3) (k' := 1) (n' := 4) (cap := 4) B e6_1 (w23 hw) Ow.nn (by rw [Ow.nc]; omega) ?_
 intro h2 a1 ka1 ga1 ba1 Kh2 V0a1
 have zh2 := Kh2.1
 have la1 : (a1 : Nat) < h2.size := V0a1.lt
 refine Ow.astoreN (pc' := 4) (Ls' := #[.val (.ref a), .val (.int 0), .val (.int (Int32.ofNat cs.length)), .val (.ref a1), .unset, .unset]) B e6_3 ?_
 refine Ow.aloadN (pc' := 5) B e6_4 ?_
 refine Ow.iloadN (pc' := 6) B e6_5 ?_
 refine Ow.aloadN (pc' := 7) B e6_6 ?_
 refine Ow.iconst (pc' := 8) (x := 0) B e6_7 ?_
 refine Ow.iloadN (pc' := 9) B e6_8 ?_
 have f3 := A.keep Kh2 Ow.nin0
 refine Ow.Go.old (fun o4 => ?_)
 refine Ow.callStatic (pc' := 12) (W := 0) (k' := 1) (n' := 4) (argsL := [(.ref a), (.int 0), (.ref a1), (.int 0), (.int (Int32.ofNat cs.length))]) (rest := []) B e6_9 (w83 hw) (w84 hw) (w81 hw) (w85 hw) (gcC hw G GS o4 f3 V0a1 (by omega) (by omega) hN) pd3 ?_
 intro vq5 h6 S7 q5 zh6
 rcases q5 with q5 | q5
 ·obtain ⟨rfl, Kh6, l9, f8, rfl⟩ := q5
  refine Ow.Go.nr (S' := [a1]) (st' := [(.int (Int32.ofNat cs.length))]) ?_
  refine Ow.istore (pc' := 14) (Ls' := #[.val (.ref a), .val (.int 0), .val (.int (Int32.ofNat cs.length)), .val (.ref a1), .val (.int (Int32.ofNat cs.length)), .unset]) B e6_12 ?_
  refine Ow.iload (pc' := 16) B e6_14 ?_
  refine Ow.iloadN (pc' := 17) B e6_16 ?_
  refine Ow.icmpT (pc' := 57) B e6_17 (teq (rfl)).1 ?_
  refine Ow.aloadN (pc' := 58) B e6_57 ?_
  exact Ow.retA (S' := [a1]) (t := (.array .byte)) B e6_58 (Or.inl ⟨a1, ka1, rfl, (((Keep.refl _ []).trans Kh2 (fun _ q => nomatch q)).trans Kh6 (allS (Or.inr (by omega)) all0)), (by omega), l9, f8, rfl⟩)
 ·obtain ⟨j10, x11, rfl, Kh6, e12, c13, rfl⟩ := q5
  have lj10 := (List.getElem?_eq_some_iff.mp e12).1
  refine Ow.Go.nr (S' := [a1]) (st' := [(.int (Int32.ofNat j10))]) ?_
  refine Ow.istore (pc' := 14) (Ls' := #[.val (.ref a), .val (.int 0), .val (.int (Int32.ofNat cs.length)), .val (.ref a1), .val (.int (Int32.ofNat j10)), .unset]) B e6_12 ?_
  refine Ow.iload (pc' := 16) B e6_14 ?_
  refine Ow.iloadN (pc' := 17) B e6_16 ?_
  refine Ow.icmpF (pc' := 20) B e6_17 (feq (Ow.nE)).1 ?_
  refine Ow.aloadN (pc' := 21) B e6_20 ?_
  refine Ow.iloadN (pc' := 22) B e6_21 ?_
  refine Ow.iloadN (pc' := 23) B e6_22 ?_
  have f14 := f3.keep Kh6 (Ow.ninS (by omega) Ow.nin0)
  refine Ow.Go.old (fun o15 => ?_)
  refine Ow.callStatic (pc' := 26) (W := 0) (k' := 2) (n' := 12) (argsL := [(.ref a), (.int 0), (.int (Int32.ofNat cs.length))]) (rest := []) B e6_23 (w177 hw) (w178 hw) (w81 hw) (w179 hw) (gTob hw G GS o15 f14 hC hN) pd4 ?_
  intro vq16 h17 S18 q16 zh17
  obtain ⟨r19, k20, rfl, Kh17, br19, f21, rfl⟩ := q16
  have lr19 : (r19 : Nat) < h17.size := f21.lt
  refine Ow.Go.norm (S' := [r19, a1]) (st' := [(.ref r19)]) (fun _ q => q) rfl ?_
  refine Ow.astore (pc' := 28) (Ls' := #[.val (.ref a), .val (.int 0), .val (.int (Int32.ofNat cs.length)), .val (.ref a1), .val (.int (Int32.ofNat j10)), .val (.ref r19)]) B e6_26 ?_
  refine Ow.aload (pc' := 30) B e6_28 ?_
  refine Ow.iload (pc' := 32) B e6_30 ?_
  refine Ow.Go.old (fun o22 => ?_)
  refine Ow.callStatic (pc' := 35) (W := 0) (k' := 2) (n' := 12) (argsL := [(.ref r19), (.int (Int32.ofNat j10))]) (rest := []) B e6_32 (w193 hw) (w194 hw) (w81 hw) (w195 hw) (gGetc hw G GS o22 f21 e12 (hR x11 (List.mem_of_getElem? e12)).1 (hR x11 (List.mem_of_getElem? e12)).2 hN) pd5 ?_
  intro vq23 h24 S25 q23 zh24
  obtain ⟨rfl, rfl, rfl⟩ := q23
  refine Ow.Go.nr (S' := [r19, a1]) (st' := [(.int x11)]) ?_
  refine Ow.sipush (pc' := 38) (x := 255) B e6_35 ?_
  refine Ow.icmpT (pc' := 54) B e6_38 (tlt (c13)).2.2.1 ?_
  refine Ow.aload (pc' := 56) B e6_54 ?_
  exact Ow.retA (S' := [r19]) (t := (.array .byte)) B e6_56 (Or.inr ⟨r19, k20, x11, rfl, ((((Keep.refl _ []).trans Kh2 (fun _ q => nomatch q)).trans Kh6 (allS (Or.inr (by omega)) all0)).trans Kh17 (fun _ q => nomatch q)), (by omega), List.mem_of_getElem? e12, c13, f21, rfl⟩)
set_option maxRecDepth 65536 in
set_option maxHeartbeats 40000000 in
theorem gCal0 (hw : Hw a0 Z) (G : Ow.Glo Z cz sf) (GS : GlS Z) {h0 : Heap} (O0 : Old Z n0 h0) {t n : Nat} {kt : ClassId} {vs : List Value} (D : Arv Z h0 t kt .byte (Int32.ofNat n) vs (.int 0)) (hN : n ≤ 64) :
    Ow.Con l Z EL1 n0 my7 jdk_52_method_15_code 2 (Option.some Jvm.ClassFile.FieldType.byte) [] ({ frames := 0, cells := 0, slots := 0, locals := 0 } : Room) #[(.ref t), (.int (Int32.ofNat n))] [] h0 (fun v h S' => v = some (.int 0) ∧ h = h0 ∧ S' = []) := by
 refine Ow.Con.enter (Ls := #[.val (.ref t), .val (.int (Int32.ofNat n))]) (plainFor_of_name pn0) O0 (hEW hw) (hSA hw) ?_
 intro p e s m below meth c B
 have z0 := Ow.old_le O0
 refine Ow.iloadN (pc' := 1) B e7_0 ?_
 refine Ow.aloadN (pc' := 2) B e7_1 ?_
 refine Ow.arrlen (pc' := 3) B e7_2 D ?_
 refine Ow.isub (pc' := 4) (z := ((Int32.ofNat n) - (Int32.ofNat n))) B e7_3 ?_
 refine Ow.bipush (pc' := 6) (x := 31) B e7_4 ?_
 refine Ow.iushr (pc' := 7) (z := 0) (hz := Ow.cal0) B e7_6 ?_
 refine Ow.i2b (pc' := 8) (z := 0) B e7_7 ?_
 exact Ow.retI (S' := []) (t := .byte) B e7_8 (⟨rfl, rfl, rfl⟩)
set_option maxRecDepth 65536 in
set_option maxHeartbeats 40000000 in
theorem gCal1 (hw : Hw a0 Z) (G : Ow.Glo Z cz sf) (GS : GlS Z) {h0 : Heap} (O0 : Old Z n0 h0) {t n : Nat} {kt : ClassId} {vs : List Value} (D : Arv Z h0 t kt .byte (Int32.ofNat (2 * n)) vs (.int 0)) (h0' : 0 < n) (hN : n ≤ 64) :
    Ow.Con l Z EL1 n0 my7 jdk_52_method_15_code 2 (Option.some Jvm.ClassFile.FieldType.byte) [] ({ frames := 0, cells := 0, slots := 0, locals := 0 } : Room) #[(.ref t), (.int (Int32.ofNat n))] [] h0 (fun v h S' => v = some (.int 1) ∧ h = h0 ∧ S' = []) := by
 refine Ow.Con.enter (Ls := #[.val (.ref t), .val (.int (Int32.ofNat n))]) (plainFor_of_name pn0) O0 (hEW hw) (hSA hw) ?_
 intro p e s m below meth c B
 have z0 := Ow.old_le O0
 refine Ow.iloadN (pc' := 1) B e7_0 ?_
 refine Ow.aloadN (pc' := 2) B e7_1 ?_
 refine Ow.arrlen (pc' := 3) B e7_2 D ?_
 refine Ow.isub (pc' := 4) (z := ((Int32.ofNat n) - (Int32.ofNat (2 * n)))) B e7_3 ?_
 refine Ow.bipush (pc' := 6) (x := 31) B e7_4 ?_
 refine Ow.iushr (pc' := 7) (z := 1) (hz := (Ow.cal1 h0')) B e7_6 ?_
 refine Ow.i2b (pc' := 8) (z := 1) B e7_7 ?_
 exact Ow.retI (S' := []) (t := .byte) B e7_8 (⟨rfl, rfl, rfl⟩)
set_option maxRecDepth 65536 in
set_option maxHeartbeats 40000000 in
theorem gIni2 (hw : Hw a0 Z) (G : Ow.Glo Z cz sf) (GS : GlS Z) {h0 : Heap} (O0 : Old Z n0 h0) {a b : Nat} {ka : ClassId} {cs : List Int32} (A : Arv Z h0 a ka .char (Int32.ofNat cs.length) (Ow.CA cs) (.int 0)) (E : Exa Z h0 b "java/lang/String") (V : Fld Z h0 b "java/lang/String" "value" "[B" .null) (C : Fld Z h0 b "java/lang/String" "coder" "B" (.int 0)) (hb : n0 ≤ b) (hne : a ≠ b) (hR : Ow.Rng cs) (hC : cs.length ≤ 4) (hN : cs.length ≤ 64) :
    Ow.Con l Z EL1 n0 my8 jdk_42_method_149_code 6 (Option.none : Option Jvm.ClassFile.FieldType) [] ({ frames := 4, cells := 4, slots := 12, locals := 57 } : Room) #[(.ref b), (.ref a), (.int 0), (.int (Int32.ofNat cs.length)), .null] [b] h0 (fun v h S' => ∃ t : Nat, ∃ kt : ClassId, v = none ∧ Keep h0 h [b] ∧ Ow.Chs Z h b t kt cs ∧ S' = []) := by
 refine Ow.Con.enter (Ls := #[.val (.ref b), .val (.ref a), .val (.int 0), .val (.int (Int32.ofNat cs.length)), .val .null, .unset]) (plainFor_of_name pn1) O0 (hEW hw) (hSA hw) ?_
 intro p e s m below meth c B
 have z0 := Ow.old_le O0
 have la : (a : Nat) < h0.size := A.lt
 have lb : (b : Nat) < h0.size := E.lt
 refine Ow.aloadN (pc' := 1) B e8_0 ?_
 refine Ow.objInit (pc' := 4) (W := 0) B e8_1 (w19 hw) (w20 hw) (w21 hw) ?_
 refine Ow.iloadN (pc' := 5) B e8_4 ?_
 by_cases c5 : (Int32.ofNat cs.length) = (0 : Int32)
 ·obtain rfl := Ow.nil0 c5 hN
  refine Ow.ifF (pc' := 8) B e8_5 (teq c5).2 ?_
  refine Ow.aloadN (pc' := 9) B e8_8 ?_
  refine Ow.ldcText (pc' := 11) (k' := 2) (n' := 4) (nn := 0) (vs := []) (z := 0) B e8_9 (w22 hw) (by decide) ⟨by decide, by decide⟩ (by decide) (by decide) ?_
  intro h2 a1 t3 kt3 Kh2 Ea1 Ca1 Va1 At3 Na1
  have zh2 := Kh2.1
  have la1 : (a1 : Nat) < h2.size := Ea1.lt
  have lt3 : (t3 : Nat) < h2.size := At3.lt
  have n4 : (b : Nat) ≠ a1 ∧ (b : Nat) ≠ t3 := Na1 b (by simp)
  refine Ow.getfield (pc' := 14) B e8_11 (w28 hw) Via.refl Va1 ?_
  have f5 := V.keep Kh2 Ow.nin0
  have f6 := E.keep Kh2
  refine Ow.putfield (pc' := 17) (ty := (.array .byte)) B e8_14 (w28 hw) Via.refl f5 f6 (Or.inr ⟨(w24 hw), rfl, rfl⟩) (w10 hw) (Or.inl (by simp)) ?_
  intro h7 Wh7
  have f8 := C.keep Kh2 Ow.nin0
  have Kh7 := Keep.of_wr Wh7
  have zh7 := Kh7.1
  have f9 : Fld Z h7 b "java/lang/String" "value" "[B" (.ref t3) := f5.same Wh7
  have f10 : Fld Z h7 b "java/lang/String" "coder" "B" (.int 0) := f8.other Wh7 (Or.inr (slot_ne (a0 := a0) (C := "java/lang/String") (t := .byte) (t' := (.array .byte)) (Or.inr (w25 hw)) (Or.inr (w24 hw)) (by decide) (by decide) (by decide)))
  refine Ow.aloadN (pc' := 18) B e8_17 ?_
  refine Ow.ldcText (pc' := 20) (k' := 4) (n' := 8) (nn := 0) (vs := []) (z := 0) B e8_18 (w22 hw) (by decide) ⟨by decide, by decide⟩ (by decide) (by decide) ?_
  intro h12 a11 t13 kt13 Kh12 Ea11 Ca11 Va11 At13 Na11
  have zh12 := Kh12.1
  have la11 : (a11 : Nat) < h12.size := Ea11.lt
  have lt13 : (t13 : Nat) < h12.size := At13.lt
  have n14 : (b : Nat) ≠ a11 ∧ (b : Nat) ≠ t13 := Na11 b (by simp)
  refine Ow.getfield (pc' := 23) B e8_20 (w29 hw) Via.refl Ca11 ?_
  have f15 := f10.keep Kh12 Ow.nin0
  have f16 := f6.keep Kh7
  have f17 := f16.keep Kh12
  refine Ow.putfield (pc' := 26) (ty := .byte) B e8_23 (w29 hw) Via.refl f15 f17 (Or.inr ⟨(w25 hw), rfl, rfl⟩) (w10 hw) (Or.inl (by simp)) ?_
  intro h18 Wh18
  have f19 := f9.keep Kh12 Ow.nin0
  have Kh18 := Keep.of_wr Wh18
  have zh18 := Kh18.1
  have f20 : Fld Z h18 b "java/lang/String" "coder" "B" (.int 0) := f15.same Wh18
  have f21 : Fld Z h18 b "java/lang/String" "value" "[B" (.ref t3) := f19.other Wh18 (Or.inr (slot_ne (a0 := a0) (C := "java/lang/String") (t := (.array .byte)) (t' := .byte) (Or.inr (w24 hw)) (Or.inr (w25 hw)) (by decide) (by decide) (by decide)))
  have f22 := f17.keep Kh18
  have f23 := At3.keep Kh7 (Ow.ninS (by omega) Ow.nin0)
  have f24 := f23.keep Kh12 Ow.nin0
  have f25 := f24.keep Kh18 (Ow.ninS (by omega) Ow.nin0)
  exact Ow.retV (S' := []) B e8_26 (⟨t3, kt3, rfl, (((((Keep.refl _ [b]).trans Kh2 (fun _ q => nomatch q)).trans Kh7 (allS (Or.inl (by simp)) all0)).trans Kh12 (fun _ q => nomatch q)).trans Kh18 (allS (Or.inl (by simp)) all0)), (Ow.Chs.nil f22 f21 f20 f25), rfl⟩)
 ·have hpos := Ow.pos0 c5
  refine Ow.ifT (pc' := 27) B e8_5 (feq c5).2 ?_
  refine Ow.getstatic (pc' := 30) B e8_27 (w61 hw) Via.refl G.1 ?_
  refine Ow.ifF (pc' := 33) B e8_30 (feq (G.2.1)).1 ?_
  refine Ow.aloadN (pc' := 34) B e8_33 ?_
  refine Ow.iloadN (pc' := 35) B e8_34 ?_
  refine Ow.iloadN (pc' := 36) B e8_35 ?_
  refine Ow.Go.old (fun o26 => ?_)
  refine Ow.callStatic (pc' := 39) (W := 0) (k' := 2) (n' := 12) (argsL := [(.ref a), (.int 0), (.int (Int32.ofNat cs.length))]) (rest := []) B e8_36 (w79 hw) (w80 hw) (w81 hw) (w82 hw) (gCC hw G GS o26 A hR hC hN) pd4 ?_
  intro vq27 h28 S29 q27 zh28
  rcases q27 with q27 | q27
  ·obtain ⟨r30, k31, rfl, Kh28, br30, l33, f32, rfl⟩ := q27
   have lr30 : (r30 : Nat) < h28.size := f32.lt
   refine Ow.Go.norm (S' := [r30, b]) (st' := [(.ref r30)]) (fun _ q => q) rfl ?_
   refine Ow.astore (pc' := 41) (Ls' := #[.val (.ref b), .val (.ref a), .val (.int 0), .val (.int (Int32.ofNat cs.length)), .val .null, .val (.ref r30)]) B e8_39 ?_
   refine Ow.aloadN (pc' := 42) B e8_41 ?_
   refine Ow.aload (pc' := 44) B e8_42 ?_
   refine Ow.iloadN (pc' := 45) B e8_44 ?_
   refine Ow.Go.old (fun o34 => ?_)
   refine Ow.callStatic (pc' := 48) (W := 1) (k' := 2) (n' := 12) (argsL := [(.ref r30), (.int (Int32.ofNat cs.length))]) (rest := [(.ref b)]) B e8_45 (w86 hw) (w87 hw) (w81 hw) (w88 hw) (gCal0 hw G GS (n := cs.length) o34 f32 (by omega)) pd6 ?_
   intro vq35 h36 S37 q35 zh36
   obtain ⟨rfl, rfl, rfl⟩ := q35
   refine Ow.Go.nr (S' := [r30, b]) (st' := [(.int 0), (.ref b)]) ?_
   have f38 := C.keep Kh28 Ow.nin0
   have f39 := E.keep Kh28
   refine Ow.putfield (pc' := 51) (ty := .byte) B e8_48 (w29 hw) Via.refl f38 f39 (Or.inr ⟨(w25 hw), rfl, rfl⟩) (w10 hw) (Or.inl (by simp)) ?_
   intro h40 Wh40
   have f41 := V.keep Kh28 Ow.nin0
   have Kh40 := Keep.of_wr Wh40
   have zh40 := Kh40.1
   have f42 : Fld Z h40 b "java/lang/String" "coder" "B" (.int 0) := f38.same Wh40
   have f43 : Fld Z h40 b "java/lang/String" "value" "[B" .null := f41.other Wh40 (Or.inr (slot_ne (a0 := a0) (C := "java/lang/String") (t := (.array .byte)) (t' := .byte) (Or.inr (w24 hw)) (Or.inr (w25 hw)) (by decide) (by decide) (by decide)))
   refine Ow.aloadN (pc' := 52) B e8_51 ?_
   refine Ow.aload (pc' := 54) B e8_52 ?_
   have f44 := f39.keep Kh40
   refine Ow.putfield (pc' := 57) (ty := (.array .byte)) B e8_54 (w28 hw) Via.refl f43 f44 (Or.inr ⟨(w24 hw), rfl, rfl⟩) (w10 hw) (Or.inl (by simp)) ?_
   intro h45 Wh45
   have Kh45 := Keep.of_wr Wh45
   have zh45 := Kh45.1
   have f46 : Fld Z h45 b "java/lang/String" "value" "[B" (.ref r30) := f43.same Wh45
   have f47 : Fld Z h45 b "java/lang/String" "coder" "B" (.int 0) := f42.other Wh45 (Or.inr (slot_ne (a0 := a0) (C := "java/lang/String") (t := .byte) (t' := (.array .byte)) (Or.inr (w25 hw)) (Or.inr (w24 hw)) (by decide) (by decide) (by decide)))
   have f48 := f44.keep Kh45
   have f49 := f32.keep Kh40 (Ow.ninS (by omega) Ow.nin0)
   have f50 := f49.keep Kh45 (Ow.ninS (by omega) Ow.nin0)
   exact Ow.retV (S' := []) B e8_57 (⟨r30, k31, rfl, ((((Keep.refl _ [b]).trans Kh28 (fun _ q => nomatch q)).trans Kh40 (allS (Or.inl (by simp)) all0)).trans Kh45 (allS (Or.inl (by simp)) all0)), ⟨f48, f46, hR, Or.inl ⟨f47, f50, l33⟩⟩, rfl⟩)
  ·obtain ⟨r51, k52, x54, rfl, Kh28, br51, m55, c56, f53, rfl⟩ := q27
   have lr51 : (r51 : Nat) < h28.size := f53.lt
   refine Ow.Go.norm (S' := [r51, b]) (st' := [(.ref r51)]) (fun _ q => q) rfl ?_
   refine Ow.astore (pc' := 41) (Ls' := #[.val (.ref b), .val (.ref a), .val (.int 0), .val (.int (Int32.ofNat cs.length)), .val .null, .val (.ref r51)]) B e8_39 ?_
   refine Ow.aloadN (pc' := 42) B e8_41 ?_
   refine Ow.aload (pc' := 44) B e8_42 ?_
   refine Ow.iloadN (pc' := 45) B e8_44 ?_
   refine Ow.Go.old (fun o57 => ?_)
   refine Ow.callStatic (pc' := 48) (W := 1) (k' := 2) (n' := 12) (argsL := [(.ref r51), (.int (Int32.ofNat cs.length))]) (rest := [(.ref b)]) B e8_45 (w86 hw) (w87 hw) (w81 hw) (w88 hw) (gCal1 hw G GS (n := cs.length) o57 f53 hpos (by omega)) pd6 ?_
   intro vq58 h59 S60 q58 zh59
   obtain ⟨rfl, rfl, rfl⟩ := q58
   refine Ow.Go.nr (S' := [r51, b]) (st' := [(.int 1), (.ref b)]) ?_
   have f61 := C.keep Kh28 Ow.nin0
   have f62 := E.keep Kh28
   refine Ow.putfield (pc' := 51) (ty := .byte) B e8_48 (w29 hw) Via.refl f61 f62 (Or.inr ⟨(w25 hw), rfl, rfl⟩) (w10 hw) (Or.inl (by simp)) ?_
   intro h63 Wh63
   have f64 := V.keep Kh28 Ow.nin0
   have Kh63 := Keep.of_wr Wh63
   have zh63 := Kh63.1
   have f65 : Fld Z h63 b "java/lang/String" "coder" "B" (.int 1) := f61.same Wh63
   have f66 : Fld Z h63 b "java/lang/String" "value" "[B" .null := f64.other Wh63 (Or.inr (slot_ne (a0 := a0) (C := "java/lang/String") (t := (.array .byte)) (t' := .byte) (Or.inr (w24 hw)) (Or.inr (w25 hw)) (by decide) (by decide) (by decide)))
   refine Ow.aloadN (pc' := 52) B e8_51 ?_
   refine Ow.aload (pc' := 54) B e8_52 ?_
   have f67 := f62.keep Kh63
   refine Ow.putfield (pc' := 57) (ty := (.array .byte)) B e8_54 (w28 hw) Via.refl f66 f67 (Or.inr ⟨(w24 hw), rfl, rfl⟩) (w10 hw) (Or.inl (by simp)) ?_
   intro h68 Wh68
   have Kh68 := Keep.of_wr Wh68
   have zh68 := Kh68.1
   have f69 : Fld Z h68 b "java/lang/String" "value" "[B" (.ref r51) := f66.same Wh68
   have f70 : Fld Z h68 b "java/lang/String" "coder" "B" (.int 1) := f65.other Wh68 (Or.inr (slot_ne (a0 := a0) (C := "java/lang/String") (t := .byte) (t' := (.array .byte)) (Or.inr (w25 hw)) (Or.inr (w24 hw)) (by decide) (by decide) (by decide)))
   have f71 := f67.keep Kh68
   have f72 := f53.keep Kh63 (Ow.ninS (by omega) Ow.nin0)
   have f73 := f72.keep Kh68 (Ow.ninS (by omega) Ow.nin0)
   exact Ow.retV (S' := []) B e8_57 (⟨r51, k52, rfl, ((((Keep.refl _ [b]).trans Kh28 (fun _ q => nomatch q)).trans Kh63 (allS (Or.inl (by simp)) all0)).trans Kh68 (allS (Or.inl (by simp)) all0)), ⟨f71, f69, hR, Or.inr ⟨f70, f73, ⟨x54, m55, c56⟩⟩⟩, rfl⟩)
set_option maxRecDepth 65536 in
set_option maxHeartbeats 40000000 in
theorem gIni (hw : Hw a0 Z) (G : Ow.Glo Z cz sf) (GS : GlS Z) {h0 : Heap} (O0 : Old Z n0 h0) {a b : Nat} {ka : ClassId} {cs : List Int32} (A : Arv Z h0 a ka .char (Int32.ofNat cs.length) (Ow.CA cs) (.int 0)) (E : Exa Z h0 b "java/lang/String") (V : Fld Z h0 b "java/lang/String" "value" "[B" .null) (C : Fld Z h0 b "java/lang/String" "coder" "B" (.int 0)) (hb : n0 ≤ b) (hne : a ≠ b) (hR : Ow.Rng cs) (hC : cs.length ≤ 4) (hN : cs.length ≤ 64) :
    Ow.Con l Z EL1 n0 my9 jdk_42_method_3_code 2 (Option.none : Option Jvm.ClassFile.FieldType) [] ({ frames := 5, cells := 4, slots := 12, locals := 74 } : Room) #[(.ref b), (.ref a)] [b] h0 (fun v h S' => ∃ t : Nat, ∃ kt : ClassId, v = none ∧ Keep h0 h [b] ∧ Ow.Chs Z h b t kt cs ∧ S' = []) := by
 refine Ow.Con.enter (Ls := #[.val (.ref b), .val (.ref a)]) (plainFor_of_name pn1) O0 (hEW hw) (hSA hw) ?_
 intro p e s m below meth c B
 have z0 := Ow.old_le O0
 have la : (a : Nat) < h0.size := A.lt
 have lb : (b : Nat) < h0.size := E.lt
 refine Ow.aloadN (pc' := 1) B e9_0 ?_
 refine Ow.aloadN (pc' := 2) B e9_1 ?_
 refine Ow.iconst (pc' := 3) (x := 0) B e9_2 ?_
 refine Ow.aloadN (pc' := 4) B e9_3 ?_
 refine Ow.arrlen (pc' := 5) B e9_4 A ?_
 refine Ow.aconstNull (pc' := 6) B e9_5 ?_
 refine Ow.Go.old (fun o1 => ?_)
 refine Ow.callInit (pc' := 9) (W := 0) (k' := 4) (n' := 12) (argsL := [(.ref a), (.int 0), (.int (Int32.ofNat cs.length)), .null]) (rest := []) B e9_6 (w15 hw) (w16 hw) (w11 hw) (w18 hw) (gIni2 hw G GS o1 A E V C (by omega) (by omega) hR hC hN) pd7 ?_
 intro vq2 h3 S4 q2 zh3
 obtain ⟨t5, k6, rfl, Kh3, f7, rfl⟩ := q2
 refine Ow.Go.nr (S' := [b]) (st' := []) ?_
 exact Ow.retV (S' := []) B e9_9 (⟨t5, k6, rfl, ((Keep.refl _ [b]).trans Kh3 (allS (Or.inl (by simp)) all0)), f7, rfl⟩)
set_option maxRecDepth 65536 in
set_option maxHeartbeats 40000000 in
theorem con_coder_1 (hw : Hw a0 Z) (G : Ow.Glo Z cz sf) (GS : GlS Z) {pa0 : Nat} {h0 : Heap} (O0 : Old Z n0 h0) (hf0 : Fld Z h0 pa0 "java/lang/String" "coder" "B" (.int 0)) :
    Ow.Con l Z EL1 n0 my10 jdk_42_method_152_code 1 (Option.some Jvm.ClassFile.FieldType.byte) [] ({ frames := 0, cells := 0, slots := 0, locals := 0 } : Room) #[(.ref pa0)] [] h0 (fun v h S' => (v = some (.int 0) ∧ h = h0 ∧ S' = [])) := by
 refine Ow.Con.enter (Ls := #[.val (.ref pa0)]) (plainFor_of_name pn1) O0 (hEW hw) (hSA hw) ?_
 intro p e s m below meth c B
 have z0 := Ow.old_le O0
 have lpa0 : (pa0 : Nat) < h0.size := hf0.lt
 refine Ow.getstatic (pc' := 3) B e11_0 (w61 hw) Via.refl G.1 ?_
 refine Ow.ifF (pc' := 6) B e11_3 (feq (G.2.1)).1 ?_
 refine Ow.aloadN (pc' := 7) B e11_6 ?_
 refine Ow.getfield (pc' := 10) B e11_7 (w29 hw) Via.refl hf0 ?_
 refine Ow.goto (pc' := 14) B e11_10 ?_
 exact Ow.retI (S' := []) (t := .byte) B e11_14 (⟨rfl, rfl, rfl⟩)
set_option maxRecDepth 65536 in
set_option maxHeartbeats 40000000 in
theorem con_coder_2 (hw : Hw a0 Z) (G : Ow.Glo Z cz sf) (GS : GlS Z) {pa0 : Nat} {h0 : Heap} (O0 : Old Z n0 h0) (hf0 : Fld Z h0 pa0 "java/lang/String" "coder" "B" (.int 1)) :
    Ow.Con l Z EL1 n0 my10 jdk_42_method_152_code 1 (Option.some Jvm.ClassFile.FieldType.byte) [] ({ frames := 0, cells := 0, slots := 0, locals := 0 } : Room) #[(.ref pa0)] [] h0 (fun v h S' => (v = some (.int 1) ∧ h = h0 ∧ S' = [])) := by
 refine Ow.Con.enter (Ls := #[.val (.ref pa0)]) (plainFor_of_name pn1) O0 (hEW hw) (hSA hw) ?_
 intro p e s m below meth c B
 have z0 := Ow.old_le O0
 have lpa0 : (pa0 : Nat) < h0.size := hf0.lt
 refine Ow.getstatic (pc' := 3) B e11_0 (w61 hw) Via.refl G.1 ?_
 refine Ow.ifF (pc' := 6) B e11_3 (feq (G.2.1)).1 ?_
 refine Ow.aloadN (pc' := 7) B e11_6 ?_
 refine Ow.getfield (pc' := 10) B e11_7 (w29 hw) Via.refl hf0 ?_
 refine Ow.goto (pc' := 14) B e11_10 ?_
 exact Ow.retI (S' := []) (t := .byte) B e11_14 (⟨rfl, rfl, rfl⟩)
set_option maxRecDepth 65536 in
set_option maxHeartbeats 40000000 in
theorem gLen (hw : Hw a0 Z) (G : Ow.Glo Z cz sf) (GS : GlS Z) {h0 : Heap} (O0 : Old Z n0 h0) {b t : Nat} {kt : ClassId} {cs : List Int32} (F : Ow.Chs Z h0 b t kt cs) (hN : cs.length ≤ 64) :
    Ow.Con l Z EL1 n0 my11 jdk_42_method_54_code 1 (Option.some Jvm.ClassFile.FieldType.int) [] ({ frames := 1, cells := 0, slots := 0, locals := 13 } : Room) #[(.ref b)] [] h0 (fun v h S' => v = some (.int (Int32.ofNat cs.length)) ∧ h = h0 ∧ S' = []) := by
 rcases F.2.2.2 with ⟨oc, oa, ol⟩ | ⟨oc, oa, ou⟩
 ·refine Ow.Con.enter (Ls := #[.val (.ref b)]) (plainFor_of_name pn1) O0 (hEW hw) (hSA hw) ?_
  intro p e s m below meth c B
  have z0 := Ow.old_le O0
  refine Ow.aloadN (pc' := 1) B e10_0 ?_
  refine Ow.getfield (pc' := 4) B e10_1 (w28 hw) Via.refl F.2.1 ?_
  refine Ow.arrlen (pc' := 5) B e10_4 oa ?_
  refine Ow.aloadN (pc' := 6) B e10_5 ?_
  refine Ow.Go.old (fun o1 => ?_)
  refine Ow.callVirtual (pc' := 9) (W := 1) (k' := 0) (n' := 0) (argsL := []) (rest := [(.int (Int32.ofNat cs.length))]) (K := "java/lang/String") B e10_6 (w56 hw) (w57 hw) (w59 hw) (w59 hw) (w58 hw) (w11 hw) (w60 hw) F.1 (con_coder_1 hw G GS (pa0 := b) o1 oc) pd8 ?_
  intro vq2 h3 S4 q2 zh3
  obtain ⟨rfl, rfl, rfl⟩ := q2
  refine Ow.Go.nr (S' := []) (st' := [(.int 0), (.int (Int32.ofNat cs.length))]) ?_
  refine Ow.ishr (pc' := 10) (z := (Int32.ofNat cs.length)) (hz := (Ow.shr0 _)) B e10_9 ?_
  exact Ow.retI (S' := []) (t := .int) B e10_10 (⟨rfl, rfl, rfl⟩)
 ·refine Ow.Con.enter (Ls := #[.val (.ref b)]) (plainFor_of_name pn1) O0 (hEW hw) (hSA hw) ?_
  intro p e s m below meth c B
  have z0 := Ow.old_le O0
  refine Ow.aloadN (pc' := 1) B e10_0 ?_
  refine Ow.getfield (pc' := 4) B e10_1 (w28 hw) Via.refl F.2.1 ?_
  refine Ow.arrlen (pc' := 5) B e10_4 oa ?_
  refine Ow.aloadN (pc' := 6) B e10_5 ?_
  refine Ow.Go.old (fun o1 => ?_)
  refine Ow.callVirtual (pc' := 9) (W := 1) (k' := 0) (n' := 0) (argsL := []) (rest := [(.int (Int32.ofNat (2 * cs.length)))]) (K := "java/lang/String") B e10_6 (w56 hw) (w57 hw) (w59 hw) (w59 hw) (w58 hw) (w11 hw) (w60 hw) F.1 (con_coder_2 hw G GS (pa0 := b) o1 oc) pd8 ?_
  intro vq2 h3 S4 q2 zh3
  obtain ⟨rfl, rfl, rfl⟩ := q2
  refine Ow.Go.nr (S' := []) (st' := [(.int 1), (.int (Int32.ofNat (2 * cs.length)))]) ?_
  refine Ow.ishr (pc' := 10) (z := (Int32.ofNat cs.length)) (hz := (Ow.nH (by omega))) B e10_9 ?_
  exact Ow.retI (S' := []) (t := .int) B e10_10 (⟨rfl, rfl, rfl⟩)
set_option maxRecDepth 65536 in
set_option maxHeartbeats 40000000 in
theorem con_checkIndex_3 (hw : Hw a0 Z) (G : Ow.Glo Z cz sf) (GS : GlS Z) {px0 : Int32} {px1 : Int32} {pv0 : Value} {h0 : Heap} (O0 : Old Z n0 h0) (hk0 : ¬ (px0 < (0 : Int32))) (hk1 : px0 < px1) (hv_pv0 : pv0.isRef = true) :
    Ow.Con l Z EL1 n0 my12 jdk_41_method_11_code 3 (Option.some Jvm.ClassFile.FieldType.int) [] ({ frames := 0, cells := 0, slots := 0, locals := 0 } : Room) #[(.int px0), (.int px1), pv0] [] h0 (fun v h S' => (v = some (.int px0) ∧ h = h0 ∧ S' = [])) := by
 rcases ref_cases hv_pv0 with rfl | ⟨sa_pv0, rfl⟩
 ·refine Ow.Con.enter (Ls := #[.val (.int px0), .val (.int px1), .val .null]) (plainFor_of_name pn3) O0 (hEW hw) (hSA hw) ?_
  intro p e s m below meth c B
  have z0 := Ow.old_le O0
  refine Ow.iloadN (pc' := 1) B e14_0 ?_
  refine Ow.ifF (pc' := 4) B e14_1 (flt (hk0)).1 ?_
  refine Ow.iloadN (pc' := 5) B e14_4 ?_
  refine Ow.iloadN (pc' := 6) B e14_5 ?_
  refine Ow.icmpT (pc' := 16) B e14_6 (tlt (hk1)).1 ?_
  refine Ow.iloadN (pc' := 17) B e14_16 ?_
  exact Ow.retI (S' := []) (t := .int) B e14_17 (⟨rfl, rfl, rfl⟩)
 ·refine Ow.Con.enter (Ls := #[.val (.int px0), .val (.int px1), .val (.ref sa_pv0)]) (plainFor_of_name pn3) O0 (hEW hw) (hSA hw) ?_
  intro p e s m below meth c B
  have z0 := Ow.old_le O0
  refine Ow.iloadN (pc' := 1) B e14_0 ?_
  refine Ow.ifF (pc' := 4) B e14_1 (flt (hk0)).1 ?_
  refine Ow.iloadN (pc' := 5) B e14_4 ?_
  refine Ow.iloadN (pc' := 6) B e14_5 ?_
  refine Ow.icmpT (pc' := 16) B e14_6 (tlt (hk1)).1 ?_
  refine Ow.iloadN (pc' := 17) B e14_16 ?_
  exact Ow.retI (S' := []) (t := .int) B e14_17 (⟨rfl, rfl, rfl⟩)
set_option maxRecDepth 65536 in
set_option maxHeartbeats 40000000 in
theorem con_checkIndex_4 (hw : Hw a0 Z) (G : Ow.Glo Z cz sf) (GS : GlS Z) {px0 : Int32} {px1 : Int32} {h0 : Heap} (O0 : Old Z n0 h0) (hk0 : ¬ (px0 < (0 : Int32))) (hk1 : px0 < px1) :
    Ow.Con l Z EL1 n0 my13 jdk_42_method_155_code 2 (Option.none : Option Jvm.ClassFile.FieldType) [] ({ frames := 1, cells := 0, slots := 0, locals := 14 } : Room) #[(.int px0), (.int px1)] [] h0 (fun v h S' => (v = none ∧ h = h0 ∧ S' = [])) := by
 refine Ow.Con.enter (Ls := #[.val (.int px0), .val (.int px1)]) (plainFor_of_name pn1) O0 (hEW hw) (hSA hw) ?_
 intro p e s m below meth c B
 have z0 := Ow.old_le O0
 refine Ow.iloadN (pc' := 1) B e13_0 ?_
 refine Ow.iloadN (pc' := 2) B e13_1 ?_
 refine Ow.getstatic (pc' := 5) B e13_2 (w106 hw) Via.refl G.2.2.1 ?_
 refine Ow.Go.old (fun o1 => ?_)
 refine Ow.callStatic (pc' := 8) (W := 0) (k' := 0) (n' := 0) (argsL := [(.int px0), (.int px1), sf]) (rest := []) B e13_5 (w108 hw) (w109 hw) (w107 hw) (w110 hw) (con_checkIndex_3 hw G GS (px0 := px0) (px1 := px1) (pv0 := sf) o1 (hk0) (hk1) (G.2.2.2)) pd9 ?_
 intro vq2 h3 S4 q2 zh3
 obtain ⟨rfl, rfl, rfl⟩ := q2
 refine Ow.Go.nr (S' := []) (st' := [(.int px0)]) ?_
 refine Ow.pop (pc' := 9) B e13_8 ?_
 exact Ow.retV (S' := []) B e13_9 (⟨rfl, rfl, rfl⟩)
set_option maxRecDepth 65536 in
set_option maxHeartbeats 40000000 in
theorem gLca (hw : Hw a0 Z) (G : Ow.Glo Z cz sf) (GS : GlS Z) {h0 : Heap} (O0 : Old Z n0 h0) {t j : Nat} {kt : ClassId} {x : Int32} {cs : List Int32} (D : Arv Z h0 t kt .byte (Int32.ofNat cs.length) (Ow.LB cs) (.int 0)) (hx : cs[j]? = some x) (r0 : ¬ x < (0 : Int32)) (r1 : ¬ (255 : Int32) < x) (hN : cs.length ≤ 64) :
    Ow.Con l Z EL1 n0 my14 jdk_43_method_2_code 2 (Option.some Jvm.ClassFile.FieldType.char) [] ({ frames := 2, cells := 0, slots := 0, locals := 27 } : Room) #[(.ref t), (.int (Int32.ofNat j))] [] h0 (fun v h S' => v = some (.int x) ∧ h = h0 ∧ S' = []) := by
 refine Ow.Con.enter (Ls := #[.val (.ref t), .val (.int (Int32.ofNat j))]) (plainFor_of_name pn2) O0 (hEW hw) (hSA hw) ?_
 intro p e s m below meth c B
 have z0 := Ow.old_le O0
 have hj := (List.getElem?_eq_some_iff.mp hx).1
 refine Ow.iloadN (pc' := 1) B e12_0 ?_
 refine Ow.aloadN (pc' := 2) B e12_1 ?_
 refine Ow.arrlen (pc' := 3) B e12_2 D ?_
 refine Ow.Go.old (fun o1 => ?_)
 refine Ow.callStatic (pc' := 6) (W := 0) (k' := 0) (n' := 0) (argsL := [(.int (Int32.ofNat j)), (.int (Int32.ofNat cs.length))]) (rest := []) B e12_3 (w103 hw) (w104 hw) (w11 hw) (w105 hw) (con_checkIndex_4 hw G GS (px0 := (Int32.ofNat j)) (px1 := (Int32.ofNat cs.length)) o1 (Ow.nn) ((Ow.nlT hj))) pd10 ?_
 intro vq2 h3 S4 q2 zh3
 obtain ⟨rfl, rfl, rfl⟩ := q2
 refine Ow.Go.nr (S' := []) (st' := []) ?_
 refine Ow.aloadN (pc' := 7) B e12_6 ?_
 refine Ow.iloadN (pc' := 8) B e12_7 ?_
 refine Ow.baload (pc' := 9) (v := (.int x.toInt8.toInt32)) B e12_8 D ⟨Ow.nn, Ow.nlT hj⟩ (by rw [Ow.nc]; exact Ow.gD (Ow.LBa hx)) ?_
 refine Ow.sipush (pc' := 12) (x := 255) B e12_9 ?_
 refine Ow.iand (pc' := 13) (z := x) (hz := (Ow.b255 (r0) (r1))) B e12_12 ?_
 refine Ow.i2c (pc' := 14) (z := x) (hz := (Ow.c_id (r0) (r1))) B e12_13 ?_
 exact Ow.retI (S' := []) (t := .char) (hnn := (Ow.cnarrow (Ow.nar_id (r0) (r1)))) B e12_14 (⟨rfl, rfl, rfl⟩)
set_option maxRecDepth 65536 in
set_option maxHeartbeats 40000000 in
theorem gUln (hw : Hw a0 Z) (G : Ow.Glo Z cz sf) (GS : GlS Z) {h0 : Heap} (O0 : Old Z n0 h0) {t n : Nat} {kt : ClassId} {vs : List Value} (D : Arv Z h0 t kt .byte (Int32.ofNat (2 * n)) vs (.int 0)) (hN : n ≤ 64) :
    Ow.Con l Z EL1 n0 my15 jdk_52_method_6_code 1 (Option.some Jvm.ClassFile.FieldType.int) [] ({ frames := 0, cells := 0, slots := 0, locals := 0 } : Room) #[(.ref t)] [] h0 (fun v h S' => v = some (.int (Int32.ofNat n)) ∧ h = h0 ∧ S' = []) := by
 refine Ow.Con.enter (Ls := #[.val (.ref t)]) (plainFor_of_name pn0) O0 (hEW hw) (hSA hw) ?_
 intro p e s m below meth c B
 have z0 := Ow.old_le O0
 refine Ow.aloadN (pc' := 1) B e15_0 ?_
 refine Ow.arrlen (pc' := 2) B e15_1 D ?_
 refine Ow.iconst (pc' := 3) (x := 1) B e15_2 ?_
 refine Ow.ishr (pc' := 4) (z := (Int32.ofNat n)) (hz := (Ow.nH (by omega))) B e15_3 ?_
 exact Ow.retI (S' := []) (t := .int) B e15_4 (⟨rfl, rfl, rfl⟩)
set_option maxRecDepth 65536 in
set_option maxHeartbeats 40000000 in
theorem gUci (hw : Hw a0 Z) (G : Ow.Glo Z cz sf) (GS : GlS Z) {h0 : Heap} (O0 : Old Z n0 h0) {t j : Nat} {kt : ClassId} {cs : List Int32} (D : Arv Z h0 t kt .byte (Int32.ofNat (2 * cs.length)) (Ow.UB cs) (.int 0)) (hj : j < cs.length) (hN : cs.length ≤ 64) :
    Ow.Con l Z EL1 n0 my16 jdk_52_method_91_code 2 (Option.none : Option Jvm.ClassFile.FieldType) [] ({ frames := 2, cells := 0, slots := 0, locals := 27 } : Room) #[(.int (Int32.ofNat j)), (.ref t)] [] h0 (fun v h S' => v = none ∧ h = h0 ∧ S' = []) := by
 refine Ow.Con.enter (Ls := #[.val (.int (Int32.ofNat j)), .val (.ref t)]) (plainFor_of_name pn0) O0 (hEW hw) (hSA hw) ?_
 intro p e s m below meth c B
 have z0 := Ow.old_le O0
 refine Ow.iloadN (pc' := 1) B e16_0 ?_
 refine Ow.aloadN (pc' := 2) B e16_1 ?_
 refine Ow.Go.old (fun o1 => ?_)
 refine Ow.callStatic (pc' := 5) (W := 1) (k' := 0) (n' := 0) (argsL := [(.ref t)]) (rest := [(.int (Int32.ofNat j))]) B e16_2 (w202 hw) (w203 hw) (w81 hw) (w204 hw) (gUln hw G GS o1 D hN) pd11 ?_
 intro vq2 h3 S4 q2 zh3
 obtain ⟨rfl, rfl, rfl⟩ := q2
 refine Ow.Go.nr (S' := []) (st' := [(.int (Int32.ofNat cs.length)), (.int (Int32.ofNat j))]) ?_
 refine Ow.Go.old (fun o5 => ?_)
 refine Ow.callStatic (pc' := 8) (W := 0) (k' := 0) (n' := 0) (argsL := [(.int (Int32.ofNat j)), (.int (Int32.ofNat cs.length))]) (rest := []) B e16_5 (w205 hw) (w104 hw) (w11 hw) (w105 hw) (con_checkIndex_4 hw G GS (px0 := (Int32.ofNat j)) (px1 := (Int32.ofNat cs.length)) o5 (Ow.nn) ((Ow.nlT hj))) pd10 ?_
 intro vq6 h7 S8 q6 zh7
 obtain ⟨rfl, rfl, rfl⟩ := q6
 refine Ow.Go.nr (S' := []) (st' := []) ?_
 exact Ow.retV (S' := []) B e16_8 (⟨rfl, rfl, rfl⟩)
set_option maxRecDepth 65536 in
set_option maxHeartbeats 40000000 in
theorem gUca (hw : Hw a0 Z) (G : Ow.Glo Z cz sf) (GS : GlS Z) {h0 : Heap} (O0 : Old Z n0 h0) {t j : Nat} {kt : ClassId} {x : Int32} {cs : List Int32} (D : Arv Z h0 t kt .byte (Int32.ofNat (2 * cs.length)) (Ow.UB cs) (.int 0)) (hx : cs[j]? = some x) (r0 : ¬ x < (0 : Int32)) (r1 : ¬ (65535 : Int32) < x) (hN : cs.length ≤ 64) :
    Ow.Con l Z EL1 n0 my17 jdk_52_method_83_code 2 (Option.some Jvm.ClassFile.FieldType.char) [] ({ frames := 3, cells := 0, slots := 0, locals := 40 } : Room) #[(.ref t), (.int (Int32.ofNat j))] [] h0 (fun v h S' => v = some (.int x) ∧ h = h0 ∧ S' = []) := by
 refine Ow.Con.enter (Ls := #[.val (.ref t), .val (.int (Int32.ofNat j))]) (plainFor_of_name pn0) O0 (hEW hw) (hSA hw) ?_
 intro p e s m below meth c B
 have z0 := Ow.old_le O0
 have hj := (List.getElem?_eq_some_iff.mp hx).1
 refine Ow.iloadN (pc' := 1) B e17_0 ?_
 refine Ow.aloadN (pc' := 2) B e17_1 ?_
 refine Ow.Go.old (fun o1 => ?_)
 refine Ow.callStatic (pc' := 5) (W := 0) (k' := 0) (n' := 0) (argsL := [(.int (Int32.ofNat j)), (.ref t)]) (rest := []) B e17_2 (w199 hw) (w200 hw) (w81 hw) (w201 hw) (gUci hw G GS o1 D hj hN) pd12 ?_
 intro vq2 h3 S4 q2 zh3
 obtain ⟨rfl, rfl, rfl⟩ := q2
 refine Ow.Go.nr (S' := []) (st' := []) ?_
 refine Ow.aloadN (pc' := 6) B e17_5 ?_
 refine Ow.iloadN (pc' := 7) B e17_6 ?_
 refine Ow.Go.old (fun o5 => ?_)
 refine Ow.callStatic (pc' := 10) (W := 0) (k' := 0) (n' := 0) (argsL := [(.ref t), (.int (Int32.ofNat j))]) (rest := []) B e17_7 (w193 hw) (w194 hw) (w81 hw) (w195 hw) (gGetc hw G GS o5 D hx r0 r1 hN) pd5 ?_
 intro vq6 h7 S8 q6 zh7
 obtain ⟨rfl, rfl, rfl⟩ := q6
 refine Ow.Go.nr (S' := []) (st' := [(.int x)]) ?_
 exact Ow.retI (S' := []) (t := .char) (hnn := (Ow.cnarrow (Ow.nar_id16 (r0) (r1)))) B e17_10 (⟨rfl, rfl, rfl⟩)
set_option maxRecDepth 65536 in
set_option maxHeartbeats 40000000 in
theorem con_isLatin1_5 (hw : Hw a0 Z) (G : Ow.Glo Z cz sf) (GS : GlS Z) {pa0 : Nat} {h0 : Heap} (O0 : Old Z n0 h0) (hf0 : Fld Z h0 pa0 "java/lang/String" "coder" "B" (.int 0)) :
    Ow.Con l Z EL1 n0 my18 jdk_42_method_154_code 1 (Option.some Jvm.ClassFile.FieldType.boolean) [] ({ frames := 0, cells := 0, slots := 0, locals := 0 } : Room) #[(.ref pa0)] [] h0 (fun v h S' => (v = some (.int 1) ∧ h = h0 ∧ S' = [])) := by
 refine Ow.Con.enter (Ls := #[.val (.ref pa0)]) (plainFor_of_name pn1) O0 (hEW hw) (hSA hw) ?_
 intro p e s m below meth c B
 have z0 := Ow.old_le O0
 have lpa0 : (pa0 : Nat) < h0.size := hf0.lt
 refine Ow.getstatic (pc' := 3) B e19_0 (w61 hw) Via.refl G.1 ?_
 refine Ow.ifF (pc' := 6) B e19_3 (feq (G.2.1)).1 ?_
 refine Ow.aloadN (pc' := 7) B e19_6 ?_
 refine Ow.getfield (pc' := 10) B e19_7 (w29 hw) Via.refl hf0 ?_
 refine Ow.ifF (pc' := 13) B e19_10 (by decide) ?_
 refine Ow.iconst (pc' := 14) (x := 1) B e19_13 ?_
 refine Ow.goto (pc' := 18) B e19_14 ?_
 exact Ow.retI (S' := []) (t := .boolean) B e19_18 (⟨rfl, rfl, rfl⟩)
set_option maxRecDepth 65536 in
set_option maxHeartbeats 40000000 in
theorem con_isLatin1_6 (hw : Hw a0 Z) (G : Ow.Glo Z cz sf) (GS : GlS Z) {pa0 : Nat} {h0 : Heap} (O0 : Old Z n0 h0) (hf0 : Fld Z h0 pa0 "java/lang/String" "coder" "B" (.int 1)) :
    Ow.Con l Z EL1 n0 my18 jdk_42_method_154_code 1 (Option.some Jvm.ClassFile.FieldType.boolean) [] ({ frames := 0, cells := 0, slots := 0, locals := 0 } : Room) #[(.ref pa0)] [] h0 (fun v h S' => (v = some (.int 0) ∧ h = h0 ∧ S' = [])) := by
 refine Ow.Con.enter (Ls := #[.val (.ref pa0)]) (plainFor_of_name pn1) O0 (hEW hw) (hSA hw) ?_
 intro p e s m below meth c B
 have z0 := Ow.old_le O0
 have lpa0 : (pa0 : Nat) < h0.size := hf0.lt
 refine Ow.getstatic (pc' := 3) B e19_0 (w61 hw) Via.refl G.1 ?_
 refine Ow.ifF (pc' := 6) B e19_3 (feq (G.2.1)).1 ?_
 refine Ow.aloadN (pc' := 7) B e19_6 ?_
 refine Ow.getfield (pc' := 10) B e19_7 (w29 hw) Via.refl hf0 ?_
 refine Ow.ifT (pc' := 17) B e19_10 (by decide) ?_
 refine Ow.iconst (pc' := 18) (x := 0) B e19_17 ?_
 exact Ow.retI (S' := []) (t := .boolean) B e19_18 (⟨rfl, rfl, rfl⟩)
set_option maxRecDepth 65536 in
set_option maxHeartbeats 40000000 in
theorem gCha (hw : Hw a0 Z) (G : Ow.Glo Z cz sf) (GS : GlS Z) {h0 : Heap} (O0 : Old Z n0 h0) {b t j : Nat} {kt : ClassId} {x : Int32} {cs : List Int32} (F : Ow.Chs Z h0 b t kt cs) (hx : cs[j]? = some x) (hN : cs.length ≤ 64) :
    Ow.Con l Z EL1 n0 my19 jdk_42_method_56_code 2 (Option.some Jvm.ClassFile.FieldType.char) [] ({ frames := 4, cells := 0, slots := 0, locals := 53 } : Room) #[(.ref b), (.int (Int32.ofNat j))] [] h0 (fun v h S' => v = some (.int x) ∧ h = h0 ∧ S' = []) := by
 rcases F.2.2.2 with ⟨oc, oa, ol⟩ | ⟨oc, oa, ou⟩
 ·refine Ow.Con.enter (Ls := #[.val (.ref b), .val (.int (Int32.ofNat j))]) (plainFor_of_name pn1) O0 (hEW hw) (hSA hw) ?_
  intro p e s m below meth c B
  have z0 := Ow.old_le O0
  have hj := (List.getElem?_eq_some_iff.mp hx).1
  have hm := List.mem_of_getElem? hx
  refine Ow.aloadN (pc' := 1) B e18_0 ?_
  refine Ow.Go.old (fun o1 => ?_)
  refine Ow.callVirtual (pc' := 4) (W := 0) (k' := 0) (n' := 0) (argsL := []) (rest := []) (K := "java/lang/String") B e18_1 (w94 hw) (w95 hw) (w97 hw) (w97 hw) (w96 hw) (w11 hw) (w98 hw) F.1 (con_isLatin1_5 hw G GS (pa0 := b) o1 oc) pd13 ?_
  intro vq2 h3 S4 q2 zh3
  obtain ⟨rfl, rfl, rfl⟩ := q2
  refine Ow.Go.nr (S' := []) (st' := [(.int 1)]) ?_
  refine Ow.ifF (pc' := 7) B e18_4 (by decide) ?_
  refine Ow.aloadN (pc' := 8) B e18_7 ?_
  refine Ow.getfield (pc' := 11) B e18_8 (w28 hw) Via.refl F.2.1 ?_
  refine Ow.iloadN (pc' := 12) B e18_11 ?_
  refine Ow.Go.old (fun o5 => ?_)
  refine Ow.callStatic (pc' := 15) (W := 0) (k' := 0) (n' := 0) (argsL := [(.ref t), (.int (Int32.ofNat j))]) (rest := []) B e18_12 (w99 hw) (w100 hw) (w101 hw) (w102 hw) (gLca hw G GS o5 oa hx (F.2.2.1 x hm).1 (ol x hm) hN) pd5 ?_
  intro vq6 h7 S8 q6 zh7
  obtain ⟨rfl, rfl, rfl⟩ := q6
  refine Ow.Go.nr (S' := []) (st' := [(.int x)]) ?_
  exact Ow.retI (S' := []) (t := .char) (hnn := (Ow.cnarrow (Ow.nar_id16 ((F.2.2.1 x hm).1) ((F.2.2.1 x hm).2)))) B e18_15 (⟨rfl, rfl, rfl⟩)
 ·refine Ow.Con.enter (Ls := #[.val (.ref b), .val (.int (Int32.ofNat j))]) (plainFor_of_name pn1) O0 (hEW hw) (hSA hw) ?_
  intro p e s m below meth c B
  have z0 := Ow.old_le O0
  have hj := (List.getElem?_eq_some_iff.mp hx).1
  have hm := List.mem_of_getElem? hx
  refine Ow.aloadN (pc' := 1) B e18_0 ?_
  refine Ow.Go.old (fun o1 => ?_)
  refine Ow.callVirtual (pc' := 4) (W := 0) (k' := 0) (n' := 0) (argsL := []) (rest := []) (K := "java/lang/String") B e18_1 (w94 hw) (w95 hw) (w97 hw) (w97 hw) (w96 hw) (w11 hw) (w98 hw) F.1 (con_isLatin1_6 hw G GS (pa0 := b) o1 oc) pd13 ?_
  intro vq2 h3 S4 q2 zh3
  obtain ⟨rfl, rfl, rfl⟩ := q2
  refine Ow.Go.nr (S' := []) (st' := [(.int 0)]) ?_
  refine Ow.ifT (pc' := 16) B e18_4 (by decide) ?_
  refine Ow.aloadN (pc' := 17) B e18_16 ?_
  refine Ow.getfield (pc' := 20) B e18_17 (w28 hw) Via.refl F.2.1 ?_
  refine Ow.iloadN (pc' := 21) B e18_20 ?_
  refine Ow.Go.old (fun o5 => ?_)
  refine Ow.callStatic (pc' := 24) (W := 0) (k' := 0) (n' := 0) (argsL := [(.ref t), (.int (Int32.ofNat j))]) (rest := []) B e18_21 (w196 hw) (w197 hw) (w81 hw) (w198 hw) (gUca hw G GS o5 oa hx (F.2.2.1 x hm).1 (F.2.2.1 x hm).2 hN) pd5 ?_
  intro vq6 h7 S8 q6 zh7
  obtain ⟨rfl, rfl, rfl⟩ := q6
  refine Ow.Go.nr (S' := []) (st' := [(.int x)]) ?_
  exact Ow.retI (S' := []) (t := .char) (hnn := (Ow.cnarrow (Ow.nar_id16 ((F.2.2.1 x hm).1) ((F.2.2.1 x hm).2)))) B e18_24 (⟨rfl, rfl, rfl⟩)
set_option maxRecDepth 65536 in
set_option maxHeartbeats 40000000 in
theorem gMin (hw : Hw a0 Z) (G : Ow.Glo Z cz sf) (GS : GlS Z) {h0 : Heap} (O0 : Old Z n0 h0) {m' n : Nat} (hn : n ≤ m') (hm : m' ≤ 128) :
    Ow.Con l Z EL1 n0 my20 jdk_29_method_69_code 2 (Option.some Jvm.ClassFile.FieldType.int) [] ({ frames := 0, cells := 0, slots := 0, locals := 0 } : Room) #[(.int (Int32.ofNat m')), (.int (Int32.ofNat n))] [] h0 (fun v h S' => v = some (.int (Int32.ofNat n)) ∧ h = h0 ∧ S' = []) := by
 refine Ow.Con.enter (Ls := #[.val (.int (Int32.ofNat m')), .val (.int (Int32.ofNat n))]) (by decide +kernel) O0 (hEW hw) (hSA hw) ?_
 intro p e s m below meth c B
 have z0 := Ow.old_le O0
 refine Ow.iloadN (pc' := 1) B e20_0 ?_
 refine Ow.iloadN (pc' := 2) B e20_1 ?_
 by_cases cM : (Int32.ofNat n) < (Int32.ofNat m')
 ·refine Ow.icmpT (pc' := 9) B e20_2 (tlt cM).2.2.1 ?_
  refine Ow.iloadN (pc' := 10) B e20_9 ?_
  exact Ow.retI (S' := []) (t := .int) B e20_10 (⟨rfl, rfl, rfl⟩)
 ·refine Ow.icmpF (pc' := 5) B e20_2 (flt cM).2.2.1 ?_
  refine Ow.iloadN (pc' := 6) B e20_5 ?_
  refine Ow.goto (pc' := 10) B e20_6 ?_
  exact Ow.retI (S' := []) (t := .int) B e20_10 (⟨by rw [show m' = n from by have q : ¬ n < m' := fun q => cM (Ow.nlT q); omega], rfl, rfl⟩)
set_option maxRecDepth 65536 in
set_option maxHeartbeats 40000000 in
theorem con_checkLength_7 (hw : Hw a0 Z) (G : Ow.Glo Z cz sf) (GS : GlS Z) {px0 : Int32} {px1 : Int32} {h0 : Heap} (O0 : Old Z n0 h0) (hk0 : ¬ (px1 < px0)) :
    Ow.Con l Z EL1 n0 my21 jdk_65_method_131_code 2 (Option.none : Option Jvm.ClassFile.FieldType) [] ({ frames := 0, cells := 0, slots := 0, locals := 0 } : Room) #[(.int px0), (.int px1)] [] h0 (fun v h S' => (v = none ∧ h = h0 ∧ S' = [])) := by
 refine Ow.Con.enter (Ls := #[.val (.int px0), .val (.int px1)]) (plainFor_of_name pn4) O0 (hEW hw) (hSA hw) ?_
 intro p e s m below meth c B
 have z0 := Ow.old_le O0
 refine Ow.iloadN (pc' := 1) B e22_0 ?_
 refine Ow.iloadN (pc' := 2) B e22_1 ?_
 refine Ow.icmpT (pc' := 37) B e22_2 (flt (hk0)).2.1 ?_
 exact Ow.retV (S' := []) B e22_37 (⟨rfl, rfl, rfl⟩)
set_option maxRecDepth 65536 in
set_option maxHeartbeats 40000000 in
theorem gCrb (hw : Hw a0 Z) (G : Ow.Glo Z cz sf) (GS : GlS Z) {h0 : Heap} (O0 : Old Z n0 h0) {t M i e' : Nat} {kt : ClassId} {vs : List Value} (D : Arv Z h0 t kt .byte (Int32.ofNat M) vs (.int 0)) (hv : vs.length = M) (hi : i ≤ e') (he : e' ≤ M) (hM : M ≤ 128) (hC : e' - i ≤ 8) :
    Ow.Con l Z EL1 n0 my22 jdk_65_method_133_code 5 (Option.some (Jvm.ClassFile.FieldType.array Jvm.ClassFile.FieldType.byte)) [] ({ frames := 1, cells := 1, slots := 8, locals := 18 } : Room) #[(.ref t), (.int (Int32.ofNat i)), (.int (Int32.ofNat e'))] [] h0 (fun v h S' => ∃ r : Nat, ∃ kr : ClassId, v = some (.ref r) ∧ Keep h0 h [] ∧ h0.size ≤ r ∧ Arv Z h r kr .byte (Int32.ofNat (e' - i)) ((vs.drop i).take (e' - i)) (.int 0) ∧ S' = [r]) := by
 refine Ow.Con.enter (Ls := #[.val (.ref t), .val (.int (Int32.ofNat i)), .val (.int (Int32.ofNat e')), .unset, .unset]) (plainFor_of_name pn4) O0 (hEW hw) (hSA hw) ?_
 intro p e s m below meth c B
 have z0 := Ow.old_le O0
 have lt0 : (t : Nat) < h0.size := D.lt
 refine Ow.iloadN (pc' := 1) B e21_0 ?_
 refine Ow.iloadN (pc' := 2) B e21_1 ?_
 refine Ow.Go.old (fun o1 => ?_)
 refine Ow.callStatic (pc' := 5) (W := 0) (k' := 0) (n' := 0) (argsL := [(.int (Int32.ofNat i)), (.int (Int32.ofNat e'))]) (rest := []) B e21_2 (w161 hw) (w162 hw) (w156 hw) (w163 hw) (con_checkLength_7 hw G GS (px0 := (Int32.ofNat i)) (px1 := (Int32.ofNat e')) o1 ((Ow.nlF (by omega)))) pd10 ?_
 intro vq2 h3 S4 q2 zh3
 obtain ⟨rfl, rfl, rfl⟩ := q2
 refine Ow.Go.nr (S' := []) (st' := []) ?_
 refine Ow.iloadN (pc' := 6) B e21_5 ?_
 refine Ow.iloadN (pc' := 7) B e21_6 ?_
 refine Ow.isub (pc' := 8) (z := (Int32.ofNat (e' - i))) (hz := (Ow.nsub hi)) B e21_7 ?_
 refine Ow.istoreN (pc' := 9) (Ls' := #[.val (.ref t), .val (.int (Int32.ofNat i)), .val (.int (Int32.ofNat e')), .val (.int (Int32.ofNat (e' - i))), .unset]) B e21_8 ?_
 refine Ow.iloadN (pc' := 10) B e21_9 ?_
 refine Ow.newArr (pc' := 12) (k' := 1) (n' := 8) (cap := 8) B e21_10 (w23 hw) Ow.nn (by rw [Ow.nc]; omega) ?_
 intro h6 a5 ka5 ga5 ba5 Kh6 V0a5
 have zh6 := Kh6.1
 have la5 : (a5 : Nat) < h6.size := V0a5.lt
 refine Ow.astore (pc' := 14) (Ls' := #[.val (.ref t), .val (.int (Int32.ofNat i)), .val (.int (Int32.ofNat e')), .val (.int (Int32.ofNat (e' - i))), .val (.ref a5)]) B e21_12 ?_
 refine Ow.aloadN (pc' := 15) B e21_14 ?_
 refine Ow.iloadN (pc' := 16) B e21_15 ?_
 refine Ow.aload (pc' := 18) B e21_16 ?_
 refine Ow.iconst (pc' := 19) (x := 0) B e21_18 ?_
 refine Ow.aloadN (pc' := 20) B e21_19 ?_
 have f7 := D.keep Kh6 Ow.nin0
 refine Ow.arrlen (pc' := 21) B e21_20 f7 ?_
 refine Ow.iloadN (pc' := 22) B e21_21 ?_
 refine Ow.isub (pc' := 23) (z := (Int32.ofNat (M - i))) (hz := (Ow.nsub (by omega))) B e21_22 ?_
 refine Ow.iloadN (pc' := 24) B e21_23 ?_
 refine Ow.Go.old (fun o8 => ?_)
 refine Ow.callStatic (pc' := 27) (W := 4) (k' := 1) (n' := 8) (argsL := [(.int (Int32.ofNat (M - i))), (.int (Int32.ofNat (e' - i)))]) (rest := [(.int 0), (.ref a5), (.int (Int32.ofNat i)), (.ref t)]) B e21_24 (w164 hw) (w134 hw) (w131 hw) (w135 hw) (gMin hw G GS o8 (by omega) (by omega)) pd14 ?_
 intro vq9 h10 S11 q9 zh10
 obtain ⟨rfl, rfl, rfl⟩ := q9
 refine Ow.Go.nr (S' := [a5]) (st' := [(.int (Int32.ofNat (e' - i))), (.int 0), (.ref a5), (.int (Int32.ofNat i)), (.ref t)]) ?_
 refine Ow.acopy (pc' := 30) (W := 0) (us := (vs.drop i).take (e' - i)) B e21_27 (w165 hw) (w168 hw) (w166 hw) (w167 hw) f7 (V0a5.pad (pad_rep [] (.int 0) (e' - i))) (by simp) ?_ (h1 := Ow.nn) (h2 := by decide) (h3 := Ow.nn) (h4 := by rw [Ow.nc, Ow.nc, Ow.nc]; omega) (h5 := by rw [Ow.nc]; exact Nat.le_of_eq (Nat.zero_add _)) (hl := by rw [Ow.nc]; simp) (hus := by rw [Ow.nc, Ow.nc]; exact Ow.cpy (by omega))
 intro h12 Kh12 V13
 have zh12 := Kh12.1
 refine Ow.aload (pc' := 32) B e21_30 ?_
 exact Ow.retA (S' := [a5]) (t := (.array .byte)) B e21_32 (⟨a5, ka5, rfl, (((Keep.refl _ []).trans Kh6 (fun _ q => nomatch q)).trans Kh12 (allS (Or.inr (by omega)) all0)), (by omega), V13, rfl⟩)
set_option maxRecDepth 65536 in
set_option maxHeartbeats 40000000 in
theorem gCor (hw : Hw a0 Z) (G : Ow.Glo Z cz sf) (GS : GlS Z) {h0 : Heap} (O0 : Old Z n0 h0) {t M i e' : Nat} {kt : ClassId} {vs : List Value} (D : Arv Z h0 t kt .byte (Int32.ofNat M) vs (.int 0)) (hv : vs.length = M) (hi : i ≤ e') (he : e' ≤ M) (hM : M ≤ 128) (hC : e' - i ≤ 8) (hf : ¬ (i = 0 ∧ e' = M)) :
    Ow.Con l Z EL1 n0 my23 jdk_65_method_132_code 3 (Option.some (Jvm.ClassFile.FieldType.array Jvm.ClassFile.FieldType.byte)) [] ({ frames := 2, cells := 1, slots := 8, locals := 34 } : Room) #[(.ref t), (.int (Int32.ofNat i)), (.int (Int32.ofNat e'))] [] h0 (fun v h S' => ∃ r : Nat, ∃ kr : ClassId, v = some (.ref r) ∧ Keep h0 h [] ∧ h0.size ≤ r ∧ Arv Z h r kr .byte (Int32.ofNat (e' - i)) ((vs.drop i).take (e' - i)) (.int 0) ∧ S' = [r]) := by
 refine Ow.Con.enter (Ls := #[.val (.ref t), .val (.int (Int32.ofNat i)), .val (.int (Int32.ofNat e'))]) (plainFor_of_name pn4) O0 (hEW hw) (hSA hw) ?_
 intro p e s m below meth c B
 have z0 := Ow.old_le O0
 have lt0 : (t : Nat) < h0.size := D.lt
 refine Ow.iloadN (pc' := 1) B e23_0 ?_
 by_cases c1 : (Int32.ofNat i) = (0 : Int32)
 ·refine Ow.ifF (pc' := 4) B e23_1 (teq c1).2 ?_
  refine Ow.iloadN (pc' := 5) B e23_4 ?_
  refine Ow.aloadN (pc' := 6) B e23_5 ?_
  refine Ow.arrlen (pc' := 7) B e23_6 D ?_
  refine Ow.icmpF (pc' := 10) B e23_7 (feq (Ow.nE (h := fun q => hf ⟨Ow.nz c1 (by omega), q⟩))).1 ?_
  refine Ow.aloadN (pc' := 11) B e23_10 ?_
  refine Ow.iloadN (pc' := 12) B e23_11 ?_
  refine Ow.iloadN (pc' := 13) B e23_12 ?_
  refine Ow.Go.old (fun o1 => ?_)
  refine Ow.callStatic (pc' := 16) (W := 0) (k' := 1) (n' := 8) (argsL := [(.ref t), (.int (Int32.ofNat i)), (.int (Int32.ofNat e'))]) (rest := []) B e23_13 (w158 hw) (w159 hw) (w156 hw) (w160 hw) (gCrb hw G GS o1 D hv hi he hM hC) pd15 ?_
  intro vq2 h3 S4 q2 zh3
  obtain ⟨r5, k6, rfl, Kh3, br5, f7, rfl⟩ := q2
  have lr5 : (r5 : Nat) < h3.size := f7.lt
  refine Ow.Go.norm (S' := [r5]) (st' := [(.ref r5)]) (fun _ q => q) rfl ?_
  exact Ow.retA (S' := [r5]) (t := (.array .byte)) B e23_16 (⟨r5, k6, rfl, ((Keep.refl _ []).trans Kh3 (fun _ q => nomatch q)), (by omega), f7, rfl⟩)
 ·refine Ow.ifT (pc' := 10) B e23_1 (feq c1).2 ?_
  refine Ow.aloadN (pc' := 11) B e23_10 ?_
  refine Ow.iloadN (pc' := 12) B e23_11 ?_
  refine Ow.iloadN (pc' := 13) B e23_12 ?_
  refine Ow.Go.old (fun o8 => ?_)
  refine Ow.callStatic (pc' := 16) (W := 0) (k' := 1) (n' := 8) (argsL := [(.ref t), (.int (Int32.ofNat i)), (.int (Int32.ofNat e'))]) (rest := []) B e23_13 (w158 hw) (w159 hw) (w156 hw) (w160 hw) (gCrb hw G GS o8 D hv hi he hM hC) pd15 ?_
  intro vq9 h10 S11 q9 zh10
  obtain ⟨r12, k13, rfl, Kh10, br12, f14, rfl⟩ := q9
  have lr12 : (r12 : Nat) < h10.size := f14.lt
  refine Ow.Go.norm (S' := [r12]) (st' := [(.ref r12)]) (fun _ q => q) rfl ?_
  exact Ow.retA (S' := [r12]) (t := (.array .byte)) B e23_16 (⟨r12, k13, rfl, ((Keep.refl _ []).trans Kh10 (fun _ q => nomatch q)), (by omega), f14, rfl⟩)
set_option maxRecDepth 65536 in
set_option maxHeartbeats 40000000 in
theorem con_init_8 (hw : Hw a0 Z) (G : Ow.Glo Z cz sf) (GS : GlS Z) {pa0 : Nat} {pa1 : Nat} {h0 : Heap} (O0 : Old Z n0 h0) (hf0 : Exa Z h0 pa0 "java/lang/String") (hf1 : Fld Z h0 pa0 "java/lang/String" "coder" "B" (.int 0)) (hf2 : Fld Z h0 pa0 "java/lang/String" "value" "[B" .null) (hn0 : n0 ≤ pa0) :
    Ow.Con l Z EL1 n0 my24 jdk_42_method_151_code 3 (Option.none : Option Jvm.ClassFile.FieldType) [] ({ frames := 1, cells := 0, slots := 0, locals := 12 } : Room) #[(.ref pa0), (.ref pa1), (.int 0)] [pa0] h0 (fun v h S' => (v = none ∧ Keep h0 h [pa0] ∧ Exa Z h pa0 "java/lang/String" ∧ Fld Z h pa0 "java/lang/String" "coder" "B" (.int 0) ∧ Fld Z h pa0 "java/lang/String" "value" "[B" (.ref pa1) ∧ S' = [])) := by
 refine Ow.Con.enter (Ls := #[.val (.ref pa0), .val (.ref pa1), .val (.int 0)]) (plainFor_of_name pn1) O0 (hEW hw) (hSA hw) ?_
 intro p e s m below meth c B
 have z0 := Ow.old_le O0
 have lpa0 : (pa0 : Nat) < h0.size := hf0.lt
 refine Ow.aloadN (pc' := 1) B e25_0 ?_
 refine Ow.objInit (pc' := 4) (W := 0) B e25_1 (w19 hw) (w20 hw) (w21 hw) ?_
 refine Ow.aloadN (pc' := 5) B e25_4 ?_
 refine Ow.aloadN (pc' := 6) B e25_5 ?_
 refine Ow.putfield (pc' := 9) (ty := (.array .byte)) B e25_6 (w28 hw) Via.refl hf2 hf0 (Or.inr ⟨(w24 hw), rfl, rfl⟩) (w10 hw) (Or.inl (by simp)) ?_
 intro h1 Wh1
 have Kh1 := Keep.of_wr Wh1
 have zh1 := Kh1.1
 have f2 : Fld Z h1 pa0 "java/lang/String" "value" "[B" (.ref pa1) := hf2.same Wh1
 have f3 : Fld Z h1 pa0 "java/lang/String" "coder" "B" (.int 0) := hf1.other Wh1 (Or.inr (slot_ne (a0 := a0) (C := "java/lang/String") (t := .byte) (t' := (.array .byte)) (Or.inr (w25 hw)) (Or.inr (w24 hw)) (by decide) (by decide) (by decide)))
 refine Ow.aloadN (pc' := 10) B e25_9 ?_
 refine Ow.iloadN (pc' := 11) B e25_10 ?_
 have f4 := hf0.keep Kh1
 refine Ow.putfield (pc' := 14) (ty := .byte) B e25_11 (w29 hw) Via.refl f3 f4 (Or.inr ⟨(w25 hw), rfl, rfl⟩) (w10 hw) (Or.inl (by simp)) ?_
 intro h5 Wh5
 have Kh5 := Keep.of_wr Wh5
 have zh5 := Kh5.1
 have f6 : Fld Z h5 pa0 "java/lang/String" "coder" "B" (.int 0) := f3.same Wh5
 have f7 : Fld Z h5 pa0 "java/lang/String" "value" "[B" (.ref pa1) := f2.other Wh5 (Or.inr (slot_ne (a0 := a0) (C := "java/lang/String") (t := (.array .byte)) (t' := .byte) (Or.inr (w24 hw)) (Or.inr (w25 hw)) (by decide) (by decide) (by decide)))
 have f8 := f4.keep Kh5
 exact Ow.retV (S' := []) B e25_14 (⟨rfl, (((Keep.refl _ [pa0]).trans Kh1 (allS (Or.inl (by simp)) all0)).trans Kh5 (allS (Or.inl (by simp)) all0)), f8, f6, f7, rfl⟩)
set_option maxRecDepth 65536 in
set_option maxHeartbeats 40000000 in
theorem gNsL (hw : Hw a0 Z) (G : Ow.Glo Z cz sf) (GS : GlS Z) {h0 : Heap} (O0 : Old Z n0 h0) {t i n : Nat} {kt : ClassId} {cs : List Int32} (D : Arv Z h0 t kt .byte (Int32.ofNat cs.length) (Ow.LB cs) (.int 0)) (hR : Ow.Rng cs) (hin : i + n ≤ cs.length) (hf : ¬ (i = 0 ∧ n = cs.length)) (hC : cs.length ≤ 4) (hN : cs.length ≤ 64) (hL : Ow.Lat cs) :
    Ow.Con l Z EL1 n0 my25 jdk_43_method_47_code 3 (Option.some (Jvm.ClassFile.FieldType.object "java/lang/String")) [] ({ frames := 3, cells := 2, slots := 12, locals := 50 } : Room) #[(.ref t), (.int (Int32.ofNat i)), (.int (Int32.ofNat n))] [] h0 (fun v h S' => ∃ r : Nat, ∃ t' : Nat, ∃ kr : ClassId, v = some (.ref r) ∧ Keep h0 h [] ∧ Ow.Chs Z h r t' kr (Ow.sl cs i n) ∧ S' = []) := by
 refine Ow.Con.enter (Ls := #[.val (.ref t), .val (.int (Int32.ofNat i)), .val (.int (Int32.ofNat n))]) (plainFor_of_name pn2) O0 (hEW hw) (hSA hw) ?_
 intro p e s m below meth c B
 have z0 := Ow.old_le O0
 have lt0 : (t : Nat) < h0.size := D.lt
 refine Ow.iloadN (pc' := 1) B e24_0 ?_
 by_cases c1 : (Int32.ofNat n) = (0 : Int32)
 ·obtain rfl := Ow.nz c1 (by omega)
  refine Ow.ifF (pc' := 4) B e24_1 (teq c1).2 ?_
  refine Ow.ldcText (pc' := 6) (k' := 2) (n' := 4) (nn := 0) (vs := []) (z := 0) B e24_4 (w206 hw) (by decide) ⟨by decide, by decide⟩ (by decide) (by decide) ?_
  intro h2 a1 t3 kt3 Kh2 Ea1 Ca1 Va1 At3 Na1
  have zh2 := Kh2.1
  have la1 : (a1 : Nat) < h2.size := Ea1.lt
  have lt3 : (t3 : Nat) < h2.size := At3.lt
  exact Ow.retA (S' := []) (t := (.object "java/lang/String")) B e24_6 (⟨a1, t3, kt3, rfl, ((Keep.refl _ []).trans Kh2 (fun _ q => nomatch q)), (Ow.Chs.nil Ea1 Va1 Ca1 At3), rfl⟩)
 ·have hpos : n ≠ 0 := fun q => c1 (by rw [q]; rfl)
  refine Ow.ifT (pc' := 7) B e24_1 (feq c1).2 ?_
  refine Ow.newObj (pc' := 10) (k' := 1) (n' := 4) B e24_7 (w153 hw) (w10 hw) (w11 hw) ?_
  intro h5 a4 ga4 ba4 Kh5 Aa4 Da4
  have zh5 := Kh5.1
  have la4 : (a4 : Nat) < h5.size := Aa4.lt
  have f6 : Fld Z h5 a4 "java/lang/String" "value" "[B" .null := Da4 (Or.inr (w24 hw)) (ty := (.array .byte)) (by decide)
  have f7 : Fld Z h5 a4 "java/lang/String" "coder" "B" (.int 0) := Da4 (Or.inr (w25 hw)) (ty := .byte) (by decide)
  refine Ow.dup (pc' := 11) B e24_10 ?_
  refine Ow.aloadN (pc' := 12) B e24_11 ?_
  refine Ow.iloadN (pc' := 13) B e24_12 ?_
  refine Ow.iloadN (pc' := 14) B e24_13 ?_
  refine Ow.iloadN (pc' := 15) B e24_14 ?_
  refine Ow.iadd (pc' := 16) (z := (Int32.ofNat (i + n))) (hz := (Ow.nadd i n)) B e24_15 ?_
  have f8 := D.keep Kh5 Ow.nin0
  refine Ow.Go.old (fun o9 => ?_)
  refine Ow.callStatic (pc' := 19) (W := 2) (k' := 2) (n' := 12) (argsL := [(.ref t), (.int (Int32.ofNat i)), (.int (Int32.ofNat (i + n)))]) (rest := [(.ref a4), (.ref a4)]) B e24_16 (w154 hw) (w155 hw) (w156 hw) (w157 hw) (gCor hw G GS (M := cs.length) (i := i) (e' := i + n) o9 f8 (by simp) (by omega) (by omega) (by omega) (by omega) (by omega)) pd15 ?_
  intro vq10 h11 S12 q10 zh11
  obtain ⟨r13, k14, rfl, Kh11, br13, f15, rfl⟩ := q10
  have lr13 : (r13 : Nat) < h11.size := f15.lt
  have f16 := Ow.Arv.slL f15 hin
  refine Ow.Go.norm (S' := [r13, a4]) (st' := [(.ref r13), (.ref a4), (.ref a4)]) (fun _ q => q) rfl ?_
  refine Ow.iconst (pc' := 20) (x := 0) B e24_19 ?_
  refine Ow.Go.old (fun o17 => ?_)
  have f18 := Aa4.keep Kh11
  have f19 := f7.keep Kh11 Ow.nin0
  have f20 := f6.keep Kh11 Ow.nin0
  refine Ow.callInit (pc' := 23) (W := 1) (k' := 2) (n' := 12) (argsL := [(.ref r13), (.int 0)]) (rest := [(.ref a4)]) B e24_20 (w169 hw) (w170 hw) (w11 hw) (w171 hw) (con_init_8 hw G GS (pa0 := a4) (pa1 := r13) o17 f18 f19 f20 (by omega)) pd16 ?_
  intro vq21 h22 S23 q21 zh22
  obtain ⟨rfl, Kh22, f24, f25, f26, rfl⟩ := q21
  refine Ow.Go.nr (S' := [r13, a4]) (st' := [(.ref a4)]) ?_
  have f27 := f16.keep Kh22 (Ow.ninS (by omega) Ow.nin0)
  exact Ow.retA (S' := []) (t := (.object "java/lang/String")) B e24_23 (⟨a4, r13, k14, rfl, ((((Keep.refl _ []).trans Kh5 (fun _ q => nomatch q)).trans Kh11 (fun _ q => nomatch q)).trans Kh22 (allS (Or.inr (by omega)) all0)), ⟨f24, f26, (fun x q => hR x (Ow.sl_mem q)), Or.inl ⟨f25, f27, (fun x q => hL x (Ow.sl_mem q))⟩⟩, rfl⟩)
set_option maxRecDepth 65536 in
set_option maxHeartbeats 40000000 in
theorem con_checkFromIndexSize_9 (hw : Hw a0 Z) (G : Ow.Glo Z cz sf) (GS : GlS Z) {px0 : Int32} {px1 : Int32} {px2 : Int32} {pv0 : Value} {h0 : Heap} (O0 : Old Z n0 h0) (hk0 : ¬ (((px2 ||| px0) ||| px1) < (0 : Int32))) (hk1 : ¬ ((px2 - px0) < px1)) (hv_pv0 : pv0.isRef = true) :
    Ow.Con l Z EL1 n0 my26 jdk_41_method_13_code 4 (Option.some Jvm.ClassFile.FieldType.int) [] ({ frames := 0, cells := 0, slots := 0, locals := 0 } : Room) #[(.int px0), (.int px1), (.int px2), pv0] [] h0 (fun v h S' => (v = some (.int px0) ∧ h = h0 ∧ S' = [])) := by
 rcases ref_cases hv_pv0 with rfl | ⟨sa_pv0, rfl⟩
 ·refine Ow.Con.enter (Ls := #[.val (.int px0), .val (.int px1), .val (.int px2), .val .null]) (plainFor_of_name pn3) O0 (hEW hw) (hSA hw) ?_
  intro p e s m below meth c B
  have z0 := Ow.old_le O0
  refine Ow.iloadN (pc' := 1) B e28_0 ?_
  refine Ow.iloadN (pc' := 2) B e28_1 ?_
  refine Ow.ior (pc' := 3) (z := (px2 ||| px0)) B e28_2 ?_
  refine Ow.iloadN (pc' := 4) B e28_3 ?_
  refine Ow.ior (pc' := 5) (z := ((px2 ||| px0) ||| px1)) B e28_4 ?_
  refine Ow.ifF (pc' := 8) B e28_5 (flt (hk0)).1 ?_
  refine Ow.iloadN (pc' := 9) B e28_8 ?_
  refine Ow.iloadN (pc' := 10) B e28_9 ?_
  refine Ow.iloadN (pc' := 11) B e28_10 ?_
  refine Ow.isub (pc' := 12) (z := (px2 - px0)) B e28_11 ?_
  refine Ow.icmpT (pc' := 23) B e28_12 (flt (hk1)).2.2.2 ?_
  refine Ow.iloadN (pc' := 24) B e28_23 ?_
  exact Ow.retI (S' := []) (t := .int) B e28_24 (⟨rfl, rfl, rfl⟩)
 ·refine Ow.Con.enter (Ls := #[.val (.int px0), .val (.int px1), .val (.int px2), .val (.ref sa_pv0)]) (plainFor_of_name pn3) O0 (hEW hw) (hSA hw) ?_
  intro p e s m below meth c B
  have z0 := Ow.old_le O0
  refine Ow.iloadN (pc' := 1) B e28_0 ?_
  refine Ow.iloadN (pc' := 2) B e28_1 ?_
  refine Ow.ior (pc' := 3) (z := (px2 ||| px0)) B e28_2 ?_
  refine Ow.iloadN (pc' := 4) B e28_3 ?_
  refine Ow.ior (pc' := 5) (z := ((px2 ||| px0) ||| px1)) B e28_4 ?_
  refine Ow.ifF (pc' := 8) B e28_5 (flt (hk0)).1 ?_
  refine Ow.iloadN (pc' := 9) B e28_8 ?_
  refine Ow.iloadN (pc' := 10) B e28_9 ?_
  refine Ow.iloadN (pc' := 11) B e28_10 ?_
  refine Ow.isub (pc' := 12) (z := (px2 - px0)) B e28_11 ?_
  refine Ow.icmpT (pc' := 23) B e28_12 (flt (hk1)).2.2.2 ?_
  refine Ow.iloadN (pc' := 24) B e28_23 ?_
  exact Ow.retI (S' := []) (t := .int) B e28_24 (⟨rfl, rfl, rfl⟩)
set_option maxRecDepth 65536 in
set_option maxHeartbeats 40000000 in
theorem con_checkBoundsOffCount_10 (hw : Hw a0 Z) (G : Ow.Glo Z cz sf) (GS : GlS Z) {px0 : Int32} {px1 : Int32} {px2 : Int32} {h0 : Heap} (O0 : Old Z n0 h0) (hk0 : ¬ (((px2 ||| px0) ||| px1) < (0 : Int32))) (hk1 : ¬ ((px2 - px0) < px1)) :
    Ow.Con l Z EL1 n0 my27 jdk_42_method_157_code 3 (Option.some Jvm.ClassFile.FieldType.int) [] ({ frames := 1, cells := 0, slots := 0, locals := 15 } : Room) #[(.int px0), (.int px1), (.int px2)] [] h0 (fun v h S' => (v = some (.int px0) ∧ h = h0 ∧ S' = [])) := by
 refine Ow.Con.enter (Ls := #[.val (.int px0), .val (.int px1), .val (.int px2)]) (plainFor_of_name pn1) O0 (hEW hw) (hSA hw) ?_
 intro p e s m below meth c B
 have z0 := Ow.old_le O0
 refine Ow.iloadN (pc' := 1) B e27_0 ?_
 refine Ow.iloadN (pc' := 2) B e27_1 ?_
 refine Ow.iloadN (pc' := 3) B e27_2 ?_
 refine Ow.getstatic (pc' := 6) B e27_3 (w106 hw) Via.refl G.2.2.1 ?_
 refine Ow.Go.old (fun o1 => ?_)
 refine Ow.callStatic (pc' := 9) (W := 0) (k' := 0) (n' := 0) (argsL := [(.int px0), (.int px1), (.int px2), sf]) (rest := []) B e27_6 (w223 hw) (w224 hw) (w107 hw) (w225 hw) (con_checkFromIndexSize_9 hw G GS (px0 := px0) (px1 := px1) (px2 := px2) (pv0 := sf) o1 (hk0) (hk1) (G.2.2.2)) pd17 ?_
 intro vq2 h3 S4 q2 zh3
 obtain ⟨rfl, rfl, rfl⟩ := q2
 refine Ow.Go.nr (S' := []) (st' := [(.int px0)]) ?_
 exact Ow.retI (S' := []) (t := .int) B e27_9 (⟨rfl, rfl, rfl⟩)
set_option maxRecDepth 65536 in
set_option maxHeartbeats 40000000 in
theorem gUob (hw : Hw a0 Z) (G : Ow.Glo Z cz sf) (GS : GlS Z) {h0 : Heap} (O0 : Old Z n0 h0) {t i n : Nat} {kt : ClassId} {cs : List Int32} (D : Arv Z h0 t kt .byte (Int32.ofNat (2 * cs.length)) (Ow.UB cs) (.int 0)) (hin : i + n ≤ cs.length) (hN : cs.length ≤ 64) :
    Ow.Con l Z EL1 n0 my28 jdk_52_method_94_code 3 (Option.none : Option Jvm.ClassFile.FieldType) [] ({ frames := 2, cells := 0, slots := 0, locals := 29 } : Room) #[(.int (Int32.ofNat i)), (.int (Int32.ofNat n)), (.ref t)] [] h0 (fun v h S' => v = none ∧ h = h0 ∧ S' = []) := by
 refine Ow.Con.enter (Ls := #[.val (.int (Int32.ofNat i)), .val (.int (Int32.ofNat n)), .val (.ref t)]) (plainFor_of_name pn0) O0 (hEW hw) (hSA hw) ?_
 intro p e s m below meth c B
 have z0 := Ow.old_le O0
 refine Ow.iloadN (pc' := 1) B e26_0 ?_
 refine Ow.iloadN (pc' := 2) B e26_1 ?_
 refine Ow.aloadN (pc' := 3) B e26_2 ?_
 refine Ow.Go.old (fun o1 => ?_)
 refine Ow.callStatic (pc' := 6) (W := 2) (k' := 0) (n' := 0) (argsL := [(.ref t)]) (rest := [(.int (Int32.ofNat n)), (.int (Int32.ofNat i))]) B e26_3 (w202 hw) (w203 hw) (w81 hw) (w204 hw) (gUln hw G GS o1 D hN) pd11 ?_
 intro vq2 h3 S4 q2 zh3
 obtain ⟨rfl, rfl, rfl⟩ := q2
 refine Ow.Go.nr (S' := []) (st' := [(.int (Int32.ofNat cs.length)), (.int (Int32.ofNat n)), (.int (Int32.ofNat i))]) ?_
 refine Ow.Go.old (fun o5 => ?_)
 refine Ow.callStatic (pc' := 9) (W := 0) (k' := 0) (n' := 0) (argsL := [(.int (Int32.ofNat i)), (.int (Int32.ofNat n)), (.int (Int32.ofNat cs.length))]) (rest := []) B e26_6 (w220 hw) (w221 hw) (w11 hw) (w222 hw) (con_checkBoundsOffCount_10 hw G GS (px0 := (Int32.ofNat i)) (px1 := (Int32.ofNat n)) (px2 := (Int32.ofNat cs.length)) o5 ((Ow.orNN (Ow.orNN Ow.nn Ow.nn) Ow.nn)) ((by rw [Ow.nsub (by omega)]; exact Ow.nlF (by omega)))) pd18 ?_
 intro vq6 h7 S8 q6 zh7
 obtain ⟨rfl, rfl, rfl⟩ := q6
 refine Ow.Go.nr (S' := []) (st' := [(.int (Int32.ofNat i))]) ?_
 refine Ow.pop (pc' := 10) B e26_9 ?_
 exact Ow.retV (S' := []) B e26_10 (⟨rfl, rfl, rfl⟩)
set_option maxRecDepth 65536 in
set_option maxHeartbeats 40000000 in
theorem gcB (hw : Hw a0 Z) (G : Ow.Glo Z cz sf) (GS : GlS Z) {h0 : Heap} (O0 : Old Z n0 h0) {t d i n : Nat} {kt kd : ClassId} {cs : List Int32} (T : Arv Z h0 t kt .byte (Int32.ofNat (2 * cs.length)) (Ow.UB cs) (.int 0)) (D : Arv Z h0 d kd .byte (Int32.ofNat n) [] (.int 0)) (hR : Ow.Rng cs) (hd : n0 ≤ d) (hne : t ≠ d) (hin : i + n ≤ cs.length) (hN : cs.length ≤ 64) :
    Ow.Con l Z EL1 n0 my29 jdk_52_method_22_code 7 (Option.some Jvm.ClassFile.FieldType.int) [] ({ frames := 3, cells := 0, slots := 0, locals := 43 } : Room) #[(.ref t), (.int (Int32.ofNat i)), (.ref d), (.int 0), (.int (Int32.ofNat n))] [d] h0 (fun v h S' => (v = some (.int (Int32.ofNat n)) ∧ Keep h0 h [d] ∧ Ow.Lat (Ow.sl cs i n) ∧ Arv Z h d kd .byte (Int32.ofNat n) (Ow.LB (Ow.sl cs i n)) (.int 0) ∧ S' = []) ∨ (∃ j : Nat, ∃ x : Int32, v = some (.int (Int32.ofNat j)) ∧ Keep h0 h [d] ∧ (Ow.sl cs i n)[j]? = some x ∧ (255 : Int32) < x ∧ S' = [])) := by
 refine Ow.Con.enter (Ls := #[.val (.ref t), .val (.int (Int32.ofNat i)), .val (.ref d), .val (.int 0), .val (.int (Int32.ofNat n)), .unset, .unset]) (plainFor_of_name pn0) O0 (hEW hw) (hSA hw) ?_
 intro p e s m below meth c B
 have z0 := Ow.old_le O0
 have ld : (d : Nat) < h0.size := D.lt
 refine Ow.iloadN (pc' := 1) B e29_0 (Ow.iload (pc' := 3) B e29_1 (Ow.aloadN (pc' := 4) B e29_3 (Ow.Go.old fun o1 => ?_)))
 refine Ow.callStatic (pc' := 7) (W := 0) (k' := 0) (n' := 0) (argsL := [.int (Int32.ofNat i), .int (Int32.ofNat n), .ref t]) (rest := []) B e29_4 (w217 hw) (w218 hw) (w81 hw) (w219 hw) (gUob hw G GS o1 T hin hN) pd19 ?_
 intro v h1 S1 ⟨e1, e2, e3⟩ zh1
 subst e1 e2 e3
 refine Ow.Go.norm (S' := [d]) (st' := []) (fun _ q => q) rfl ?_
 refine Ow.iconst (pc' := 8) (x := 0) B e29_7 ?_
 refine Ow.istore (pc' := 10) (Ls' := #[.val (.ref t), .val (.int (Int32.ofNat (i + 0))), .val (.ref d), .val (.int (Int32.ofNat 0)), .val (.int (Int32.ofNat n)), .val (.int (Int32.ofNat 0)), .unset]) B e29_8 ?_
 refine Ow.Go.loop (fun q (x : Nat × Slot) h => x.1 + q = n ∧ Keep h1 h [d] ∧ Arv Z h d kd .byte (Int32.ofNat n) ((Ow.LB (Ow.sl cs i n)).take x.1) (.int 0) ∧ (∀ y ∈ (Ow.sl cs i n).take x.1, ¬ (255 : Int32) < y) ∧ Ow.UI x.2) (fun x => #[.val (.ref t), .val (.int (Int32.ofNat (i + x.1))), .val (.ref d), .val (.int (Int32.ofNat x.1)), .val (.int (Int32.ofNat n)), .val (.int (Int32.ofNat x.1)), x.2]) ?_ n (0, .unset) ⟨by omega, Keep.refl _ _, D.pad (fun i => by simp), by simp, Or.inl rfl⟩
 intro q ⟨j, u⟩ h ⟨hj, K, D1, hl, hu⟩ ih
 dsimp only at hj D1 hl hu ⊢
 have zK := K.1
 have hln := Ow.sl_len hin
 refine Ow.iload (pc' := 12) B e29_10 (Ow.iload (pc' := 14) B e29_12 ?_)
 by_cases c1 : j < n
 ·obtain ⟨x, hx⟩ : ∃ x, (Ow.sl cs i n)[j]? = some x := ⟨_, List.getElem?_eq_getElem (by omega)⟩
  have hx' := (Ow.sl_at hx).2
  have hm := List.mem_of_getElem? hx'
  refine Ow.icmpF (pc' := 17) B e29_14 (tlt (Ow.nlT c1)).2.1 ?_
  refine Ow.aloadN (pc' := 18) B e29_17 (Ow.iloadN (pc' := 19) B e29_18 (Ow.Go.old fun o2 => ?_))
  refine Ow.callStatic (pc' := 22) (W := 0) (k' := 0) (n' := 0) (argsL := [.ref t, .int (Int32.ofNat (i + j))]) (rest := []) B e29_19 (w193 hw) (w194 hw) (w81 hw) (w195 hw) (gGetc hw G GS o2 (T.keep K (Ow.ninS hne Ow.nin0)) hx' (hR x hm).1 (hR x hm).2 hN) pd5 ?_
  intro v h2 S2 ⟨e1, e2, e3⟩ zh2
  subst e1 e2 e3
  refine Ow.Go.norm (S' := [d]) (st' := [.int x]) (fun _ q => q) rfl ?_
  refine Ow.istore (pc' := 24) (Ls' := #[.val (.ref t), .val (.int (Int32.ofNat (i + j))), .val (.ref d), .val (.int (Int32.ofNat j)), .val (.int (Int32.ofNat n)), .val (.int (Int32.ofNat j)), .val (.int x)]) (hl := by rcases hu with rfl | ⟨y, rfl⟩ <;> rfl) B e29_22 (Ow.iload (pc' := 26) B e29_24 (Ow.sipush (pc' := 29) (x := 255) B e29_26 ?_))
  by_cases c2 : (255 : Int32) < x
  ·refine Ow.icmpF (pc' := 32) B e29_29 (tlt c2).2.2.2 (Ow.iload (pc' := 34) B e29_32 ?_)
   exact Ow.retI (S' := []) (t := .int) B e29_34 (Or.inr ⟨j, x, rfl, K, hx, c2, rfl⟩)
  ·refine Ow.icmpT (pc' := 35) B e29_29 (flt c2).2.2.2 ?_
   refine Ow.aloadN (pc' := 36) B e29_35 (Ow.iloadN (pc' := 37) B e29_36 (Ow.iload (pc' := 39) B e29_37 (Ow.i2b (pc' := 40) (z := x.toInt8.toInt32) B e29_39 ?_)))
   refine Ow.bastore (pc' := 41) (i := j) B e29_40 (D1.pad (Ow.pad1 _ _)) ⟨Ow.nn, Ow.nlT c1⟩ (by simp) ?_ (hlt := by rw [List.length_append, List.length_take, List.length_map, hln]; simp; omega) (hi := Ow.nc)
   intro h' K' D2
   rw [Ow.nar_b, Ow.tk (Ow.LBa hx)] at D2
   refine Ow.iinc (pc' := 44) (y := Int32.ofNat (i + (j + 1))) (hy := (Ow.nS (i + j)).symm) (Ls' := #[.val (.ref t), .val (.int (Int32.ofNat (i + (j + 1)))), .val (.ref d), .val (.int (Int32.ofNat j)), .val (.int (Int32.ofNat n)), .val (.int (Int32.ofNat j)), .val (.int x)]) B e29_41 ?_
   refine Ow.iinc (pc' := 47) (y := Int32.ofNat (j + 1)) (hy := (Ow.nS j).symm) (Ls' := #[.val (.ref t), .val (.int (Int32.ofNat (i + (j + 1)))), .val (.ref d), .val (.int (Int32.ofNat (j + 1))), .val (.int (Int32.ofNat n)), .val (.int (Int32.ofNat j)), .val (.int x)]) B e29_44 ?_
   refine Ow.iinc (pc' := 50) (y := Int32.ofNat (j + 1)) (hy := (Ow.nS j).symm) (Ls' := #[.val (.ref t), .val (.int (Int32.ofNat (i + (j + 1)))), .val (.ref d), .val (.int (Int32.ofNat (j + 1))), .val (.int (Int32.ofNat n)), .val (.int (Int32.ofNat (j + 1))), .val (.int x)]) B e29_47 ?_
   refine Ow.goto (pc' := 10) B e29_50 ?_
   exact ih (q - 1) (j + 1, .val (.int x)) h' (by omega) ⟨by show j + 1 + (q - 1) = _; omega, K.trans K' (allS (Or.inl (by simp)) all0), D2, Ow.take1 hx hl c2, Or.inr ⟨_, rfl⟩⟩
 ·have e : j = n := by omega
  refine Ow.icmpT (pc' := 53) B e29_14 (flt (Ow.nlF c1)).2.1 (Ow.iload (pc' := 55) B e29_53 ?_)
  rw [e, Ow.takeN (by rw [List.length_map, hln]; exact Nat.le_refl _)] at D1
  rw [e, Ow.takeN (Nat.le_of_eq hln)] at hl
  exact Ow.retI (S' := []) (t := .int) B e29_55 (Or.inl ⟨rfl, K, hl, D1, rfl⟩)
set_option maxRecDepth 65536 in
set_option maxHeartbeats 40000000 in
theorem gCB (hw : Hw a0 Z) (G : Ow.Glo Z cz sf) (GS : GlS Z) {h0 : Heap} (O0 : Old Z n0 h0) {t i n : Nat} {kt : ClassId} {cs : List Int32} (D : Arv Z h0 t kt .byte (Int32.ofNat (2 * cs.length)) (Ow.UB cs) (.int 0)) (hR : Ow.Rng cs) (hin : i + n ≤ cs.length) (hf : ¬ (i = 0 ∧ n = cs.length)) (hC : cs.length ≤ 4) (hN : cs.length ≤ 64) :
    Ow.Con l Z EL1 n0 my30 jdk_52_method_17_code 6 (Option.some (Jvm.ClassFile.FieldType.array Jvm.ClassFile.FieldType.byte)) [] ({ frames := 4, cells := 2, slots := 12, locals := 61 } : Room) #[(.ref t), (.int (Int32.ofNat i)), (.int (Int32.ofNat n))] [] h0 (fun v h S' => (∃ r : Nat, ∃ kr : ClassId, v = some (.ref r) ∧ Keep h0 h [] ∧ h0.size ≤ r ∧ Ow.Lat (Ow.sl cs i n) ∧ Arv Z h r kr .byte (Int32.ofNat n) (Ow.LB (Ow.sl cs i n)) (.int 0) ∧ S' = [r]) ∨ (∃ r : Nat, ∃ kr : ClassId, ∃ x : Int32, v = some (.ref r) ∧ Keep h0 h [] ∧ h0.size ≤ r ∧ x ∈ Ow.sl cs i n ∧ (255 : Int32) < x ∧ Arv Z h r kr .byte (Int32.ofNat (2 * (Ow.sl cs i n).length)) (Ow.UB (Ow.sl cs i n)) (.int 0) ∧ S' = [r])) := by
 refine Ow.Con.enter (Ls := #[.val (.ref t), .val (.int (Int32.ofNat i)), .val (.int (Int32.ofNat n)), .unset, .unset, .unset]) (plainFor_of_name pn0) O0 (hEW hw) (hSA hw) ?_
 intro p e s m below meth c B
 have z0 := Ow.old_le O0
 have lt0 : (t : Nat) < h0.size := D.lt
 refine Ow.iloadN (pc' := 1) B e30_0 ?_
 refine Ow.newArr (pc' := 3) (k' := 1) (n' := 4) (cap := 4) B e30_1 (w23 hw) Ow.nn (by rw [Ow.nc]; omega) ?_
 intro h2 a1 ka1 ga1 ba1 Kh2 V0a1
 have zh2 := Kh2.1
 have la1 : (a1 : Nat) < h2.size := V0a1.lt
 refine Ow.astoreN (pc' := 4) (Ls' := #[.val (.ref t), .val (.int (Int32.ofNat i)), .val (.int (Int32.ofNat n)), .val (.ref a1), .unset, .unset]) B e30_3 ?_
 refine Ow.aloadN (pc' := 5) B e30_4 ?_
 refine Ow.iloadN (pc' := 6) B e30_5 ?_
 refine Ow.aloadN (pc' := 7) B e30_6 ?_
 refine Ow.iconst (pc' := 8) (x := 0) B e30_7 ?_
 refine Ow.iloadN (pc' := 9) B e30_8 ?_
 have f3 := D.keep Kh2 Ow.nin0
 refine Ow.Go.old (fun o4 => ?_)
 refine Ow.callStatic (pc' := 12) (W := 0) (k' := 1) (n' := 4) (argsL := [(.ref t), (.int (Int32.ofNat i)), (.ref a1), (.int 0), (.int (Int32.ofNat n))]) (rest := []) B e30_9 (w214 hw) (w215 hw) (w81 hw) (w216 hw) (gcB hw G GS o4 f3 V0a1 hR (by omega) (by omega) hin hN) pd20 ?_
 intro vq5 h6 S7 q5 zh6
 rcases q5 with q5 | q5
 ·obtain ⟨rfl, Kh6, l9, f8, rfl⟩ := q5
  refine Ow.Go.nr (S' := [a1]) (st' := [(.int (Int32.ofNat n))]) ?_
  refine Ow.istore (pc' := 14) (Ls' := #[.val (.ref t), .val (.int (Int32.ofNat i)), .val (.int (Int32.ofNat n)), .val (.ref a1), .val (.int (Int32.ofNat n)), .unset]) B e30_12 ?_
  refine Ow.iload (pc' := 16) B e30_14 ?_
  refine Ow.iloadN (pc' := 17) B e30_16 ?_
  refine Ow.icmpT (pc' := 64) B e30_17 (teq (rfl)).1 ?_
  refine Ow.aloadN (pc' := 65) B e30_64 ?_
  exact Ow.retA (S' := [a1]) (t := (.array .byte)) B e30_65 (Or.inl ⟨a1, ka1, rfl, (((Keep.refl _ []).trans Kh2 (fun _ q => nomatch q)).trans Kh6 (allS (Or.inr (by omega)) all0)), (by omega), l9, f8, rfl⟩)
 ·obtain ⟨j10, x11, rfl, Kh6, e12, c13, rfl⟩ := q5
  have lj10 := (Ow.sl_at e12).1
  refine Ow.Go.nr (S' := [a1]) (st' := [(.int (Int32.ofNat j10))]) ?_
  refine Ow.istore (pc' := 14) (Ls' := #[.val (.ref t), .val (.int (Int32.ofNat i)), .val (.int (Int32.ofNat n)), .val (.ref a1), .val (.int (Int32.ofNat j10)), .unset]) B e30_12 ?_
  refine Ow.iload (pc' := 16) B e30_14 ?_
  refine Ow.iloadN (pc' := 17) B e30_16 ?_
  refine Ow.icmpF (pc' := 20) B e30_17 (feq (Ow.nE)).1 ?_
  refine Ow.aloadN (pc' := 21) B e30_20 ?_
  refine Ow.iloadN (pc' := 22) B e30_21 ?_
  refine Ow.iconst (pc' := 23) (x := 1) B e30_22 ?_
  refine Ow.ishl (pc' := 24) (z := (Int32.ofNat (2 * i))) (hz := (Ow.nD (by omega))) B e30_23 ?_
  refine Ow.iloadN (pc' := 25) B e30_24 ?_
  refine Ow.iloadN (pc' := 26) B e30_25 ?_
  refine Ow.iadd (pc' := 27) (z := (Int32.ofNat (i + n))) (hz := (Ow.nadd i n)) B e30_26 ?_
  refine Ow.Go.old (fun o14 => ?_)
  refine Ow.callStatic (pc' := 30) (W := 2) (k' := 1) (n' := 4) (argsL := [(.int (Int32.ofNat (i + n)))]) (rest := [(.int (Int32.ofNat (2 * i))), (.ref t)]) B e30_27 (w183 hw) (w184 hw) (w81 hw) (w185 hw) (gNbl hw G GS (n := (i + n)) o14 (by omega)) pd0 ?_
  intro vq15 h16 S17 q15 zh16
  obtain ⟨rfl, rfl, rfl⟩ := q15
  refine Ow.Go.nr (S' := [a1]) (st' := [(.int (Int32.ofNat (2 * (i + n)))), (.int (Int32.ofNat (2 * i))), (.ref t)]) ?_
  have f18 := f3.keep Kh6 (Ow.ninS (by omega) Ow.nin0)
  refine Ow.Go.old (fun o19 => ?_)
  refine Ow.callStatic (pc' := 33) (W := 0) (k' := 2) (n' := 12) (argsL := [(.ref t), (.int (Int32.ofNat (2 * i))), (.int (Int32.ofNat (2 * (i + n))))]) (rest := []) B e30_30 (w226 hw) (w155 hw) (w156 hw) (w157 hw) (gCor hw G GS (M := 2 * cs.length) (i := 2 * i) (e' := 2 * (i + n)) o19 f18 (Ow.UBn cs) (by omega) (by omega) (by omega) (by omega) (by omega)) pd15 ?_
  intro vq20 h21 S22 q20 zh21
  obtain ⟨r23, k24, rfl, Kh21, br23, f25, rfl⟩ := q20
  have lr23 : (r23 : Nat) < h21.size := f25.lt
  have f26 := Ow.Arv.slU f25 hin
  refine Ow.Go.norm (S' := [r23, a1]) (st' := [(.ref r23)]) (fun _ q => q) rfl ?_
  refine Ow.astore (pc' := 35) (Ls' := #[.val (.ref t), .val (.int (Int32.ofNat i)), .val (.int (Int32.ofNat n)), .val (.ref a1), .val (.int (Int32.ofNat j10)), .val (.ref r23)]) B e30_33 ?_
  refine Ow.aload (pc' := 37) B e30_35 ?_
  refine Ow.iload (pc' := 39) B e30_37 ?_
  refine Ow.Go.old (fun o27 => ?_)
  refine Ow.callStatic (pc' := 42) (W := 0) (k' := 2) (n' := 12) (argsL := [(.ref r23), (.int (Int32.ofNat j10))]) (rest := []) B e30_39 (w193 hw) (w194 hw) (w81 hw) (w195 hw) (gGetc hw G GS o27 f26 e12 (hR x11 (Ow.sl_mem (List.mem_of_getElem? e12))).1 (hR x11 (Ow.sl_mem (List.mem_of_getElem? e12))).2 (by rw [Ow.sl_len hin]; omega)) pd5 ?_
  intro vq28 h29 S30 q28 zh29
  obtain ⟨rfl, rfl, rfl⟩ := q28
  refine Ow.Go.nr (S' := [r23, a1]) (st' := [(.int x11)]) ?_
  refine Ow.sipush (pc' := 45) (x := 255) B e30_42 ?_
  refine Ow.icmpT (pc' := 61) B e30_45 (tlt (c13)).2.2.1 ?_
  refine Ow.aload (pc' := 63) B e30_61 ?_
  exact Ow.retA (S' := [r23]) (t := (.array .byte)) B e30_63 (Or.inr ⟨r23, k24, x11, rfl, ((((Keep.refl _ []).trans Kh2 (fun _ q => nomatch q)).trans Kh6 (allS (Or.inr (by omega)) all0)).trans Kh21 (fun _ q => nomatch q)), (by omega), List.mem_of_getElem? e12, c13, f26, rfl⟩)
set_option maxRecDepth 65536 in
set_option maxHeartbeats 40000000 in
theorem con_init_11 (hw : Hw a0 Z) (G : Ow.Glo Z cz sf) (GS : GlS Z) {pa0 : Nat} {pa1 : Nat} {h0 : Heap} (O0 : Old Z n0 h0) (hf0 : Exa Z h0 pa0 "java/lang/String") (hf1 : Fld Z h0 pa0 "java/lang/String" "coder" "B" (.int 0)) (hf2 : Fld Z h0 pa0 "java/lang/String" "value" "[B" .null) (hn0 : n0 ≤ pa0) :
    Ow.Con l Z EL1 n0 my24 jdk_42_method_151_code 3 (Option.none : Option Jvm.ClassFile.FieldType) [] ({ frames := 1, cells := 0, slots := 0, locals := 12 } : Room) #[(.ref pa0), (.ref pa1), (.int 1)] [pa0] h0 (fun v h S' => (v = none ∧ Keep h0 h [pa0] ∧ Exa Z h pa0 "java/lang/String" ∧ Fld Z h pa0 "java/lang/String" "coder" "B" (.int 1) ∧ Fld Z h pa0 "java/lang/String" "value" "[B" (.ref pa1) ∧ S' = [])) := by
 refine Ow.Con.enter (Ls := #[.val (.ref pa0), .val (.ref pa1), .val (.int 1)]) (plainFor_of_name pn1) O0 (hEW hw) (hSA hw) ?_
 intro p e s m below meth c B
 have z0 := Ow.old_le O0
 have lpa0 : (pa0 : Nat) < h0.size := hf0.lt
 refine Ow.aloadN (pc' := 1) B e25_0 ?_
 refine Ow.objInit (pc' := 4) (W := 0) B e25_1 (w19 hw) (w20 hw) (w21 hw) ?_
 refine Ow.aloadN (pc' := 5) B e25_4 ?_
 refine Ow.aloadN (pc' := 6) B e25_5 ?_
 refine Ow.putfield (pc' := 9) (ty := (.array .byte)) B e25_6 (w28 hw) Via.refl hf2 hf0 (Or.inr ⟨(w24 hw), rfl, rfl⟩) (w10 hw) (Or.inl (by simp)) ?_
 intro h1 Wh1
 have Kh1 := Keep.of_wr Wh1
 have zh1 := Kh1.1
 have f2 : Fld Z h1 pa0 "java/lang/String" "value" "[B" (.ref pa1) := hf2.same Wh1
 have f3 : Fld Z h1 pa0 "java/lang/String" "coder" "B" (.int 0) := hf1.other Wh1 (Or.inr (slot_ne (a0 := a0) (C := "java/lang/String") (t := .byte) (t' := (.array .byte)) (Or.inr (w25 hw)) (Or.inr (w24 hw)) (by decide) (by decide) (by decide)))
 refine Ow.aloadN (pc' := 10) B e25_9 ?_
 refine Ow.iloadN (pc' := 11) B e25_10 ?_
 have f4 := hf0.keep Kh1
 refine Ow.putfield (pc' := 14) (ty := .byte) B e25_11 (w29 hw) Via.refl f3 f4 (Or.inr ⟨(w25 hw), rfl, rfl⟩) (w10 hw) (Or.inl (by simp)) ?_
 intro h5 Wh5
 have Kh5 := Keep.of_wr Wh5
 have zh5 := Kh5.1
 have f6 : Fld Z h5 pa0 "java/lang/String" "coder" "B" (.int 1) := f3.same Wh5
 have f7 : Fld Z h5 pa0 "java/lang/String" "value" "[B" (.ref pa1) := f2.other Wh5 (Or.inr (slot_ne (a0 := a0) (C := "java/lang/String") (t := (.array .byte)) (t' := .byte) (Or.inr (w24 hw)) (Or.inr (w25 hw)) (by decide) (by decide) (by decide)))
 have f8 := f4.keep Kh5
 exact Ow.retV (S' := []) B e25_14 (⟨rfl, (((Keep.refl _ [pa0]).trans Kh1 (allS (Or.inl (by simp)) all0)).trans Kh5 (allS (Or.inl (by simp)) all0)), f8, f6, f7, rfl⟩)
set_option maxRecDepth 65536 in
set_option maxHeartbeats 40000000 in
theorem gNsU (hw : Hw a0 Z) (G : Ow.Glo Z cz sf) (GS : GlS Z) {h0 : Heap} (O0 : Old Z n0 h0) {t i n : Nat} {kt : ClassId} {cs : List Int32} (D : Arv Z h0 t kt .byte (Int32.ofNat (2 * cs.length)) (Ow.UB cs) (.int 0)) (hR : Ow.Rng cs) (hin : i + n ≤ cs.length) (hf : ¬ (i = 0 ∧ n = cs.length)) (hC : cs.length ≤ 4) (hN : cs.length ≤ 64) (hpos : 0 < n) :
    Ow.Con l Z EL1 n0 my31 jdk_52_method_69_code 5 (Option.some (Jvm.ClassFile.FieldType.object "java/lang/String")) [] ({ frames := 5, cells := 3, slots := 16, locals := 78 } : Room) #[(.ref t), (.int (Int32.ofNat i)), (.int (Int32.ofNat n))] [] h0 (fun v h S' => ∃ r : Nat, ∃ t' : Nat, ∃ kr : ClassId, v = some (.ref r) ∧ Keep h0 h [] ∧ Ow.Chs Z h r t' kr (Ow.sl cs i n) ∧ S' = []) := by
 refine Ow.Con.enter (Ls := #[.val (.ref t), .val (.int (Int32.ofNat i)), .val (.int (Int32.ofNat n)), .unset, .unset]) (plainFor_of_name pn0) O0 (hEW hw) (hSA hw) ?_
 intro p e s m below meth c B
 have z0 := Ow.old_le O0
 have lt0 : (t : Nat) < h0.size := D.lt
 refine Ow.iloadN (pc' := 1) B e31_0 ?_
 refine Ow.ifT (pc' := 8) B e31_1 (feq ((fun q => absurd (Ow.nz q (by omega)) (by omega)))).2 ?_
 refine Ow.getstatic (pc' := 11) B e31_8 (w210 hw) Via.refl G.1 ?_
 refine Ow.ifF (pc' := 14) B e31_11 (feq (G.2.1)).1 ?_
 refine Ow.aloadN (pc' := 15) B e31_14 ?_
 refine Ow.iloadN (pc' := 16) B e31_15 ?_
 refine Ow.iloadN (pc' := 17) B e31_16 ?_
 refine Ow.Go.old (fun o1 => ?_)
 refine Ow.callStatic (pc' := 20) (W := 0) (k' := 2) (n' := 12) (argsL := [(.ref t), (.int (Int32.ofNat i)), (.int (Int32.ofNat n))]) (rest := []) B e31_17 (w211 hw) (w212 hw) (w81 hw) (w213 hw) (gCB hw G GS o1 D hR hin hf hC hN) pd15 ?_
 intro vq2 h3 S4 q2 zh3
 rcases q2 with q2 | q2
 ·obtain ⟨r5, k6, rfl, Kh3, br5, l8, f7, rfl⟩ := q2
  have lr5 : (r5 : Nat) < h3.size := f7.lt
  refine Ow.Go.norm (S' := [r5]) (st' := [(.ref r5)]) (fun _ q => q) rfl ?_
  refine Ow.astoreN (pc' := 21) (Ls' := #[.val (.ref t), .val (.int (Int32.ofNat i)), .val (.int (Int32.ofNat n)), .val (.ref r5), .unset]) B e31_20 ?_
  refine Ow.aloadN (pc' := 22) B e31_21 ?_
  refine Ow.iloadN (pc' := 23) B e31_22 ?_
  refine Ow.Go.old (fun o9 => ?_)
  refine Ow.callStatic (pc' := 26) (W := 0) (k' := 2) (n' := 12) (argsL := [(.ref r5), (.int (Int32.ofNat n))]) (rest := []) B e31_23 (w227 hw) (w87 hw) (w81 hw) (w88 hw) (gCal0 hw G GS (n := n) o9 f7 (by omega)) pd6 ?_
  intro vq10 h11 S12 q10 zh11
  obtain ⟨rfl, rfl, rfl⟩ := q10
  refine Ow.Go.nr (S' := [r5]) (st' := [(.int 0)]) ?_
  refine Ow.istore (pc' := 28) (Ls' := #[.val (.ref t), .val (.int (Int32.ofNat i)), .val (.int (Int32.ofNat n)), .val (.ref r5), .val (.int 0)]) B e31_26 ?_
  refine Ow.newObj (pc' := 31) (k' := 3) (n' := 16) B e31_28 (w228 hw) (w10 hw) (w11 hw) ?_
  intro h14 a13 ga13 ba13 Kh14 Aa13 Da13
  have zh14 := Kh14.1
  have la13 : (a13 : Nat) < h14.size := Aa13.lt
  have f15 : Fld Z h14 a13 "java/lang/String" "value" "[B" .null := Da13 (Or.inr (w24 hw)) (ty := (.array .byte)) (by decide)
  have f16 : Fld Z h14 a13 "java/lang/String" "coder" "B" (.int 0) := Da13 (Or.inr (w25 hw)) (ty := .byte) (by decide)
  refine Ow.dup (pc' := 32) B e31_31 ?_
  refine Ow.aloadN (pc' := 33) B e31_32 ?_
  refine Ow.iload (pc' := 35) B e31_33 ?_
  refine Ow.Go.old (fun o17 => ?_)
  refine Ow.callInit (pc' := 38) (W := 1) (k' := 3) (n' := 16) (argsL := [(.ref r5), (.int 0)]) (rest := [(.ref a13)]) B e31_35 (w229 hw) (w170 hw) (w11 hw) (w171 hw) (con_init_8 hw G GS (pa0 := a13) (pa1 := r5) o17 Aa13 f16 f15 (by omega)) pd16 ?_
  intro vq18 h19 S20 q18 zh19
  obtain ⟨rfl, Kh19, f21, f22, f23, rfl⟩ := q18
  refine Ow.Go.nr (S' := [a13, r5]) (st' := [(.ref a13)]) ?_
  have f24 := f7.keep Kh14 Ow.nin0
  have f25 := f24.keep Kh19 (Ow.ninS (by omega) Ow.nin0)
  exact Ow.retA (S' := []) (t := (.object "java/lang/String")) B e31_38 (⟨a13, r5, k6, rfl, ((((Keep.refl _ []).trans Kh3 (fun _ q => nomatch q)).trans Kh14 (fun _ q => nomatch q)).trans Kh19 (allS (Or.inr (by omega)) all0)), ⟨f21, f23, (fun x q => hR x (Ow.sl_mem q)), Or.inl ⟨f22, (by rw [Ow.sl_len hin]; exact f25), l8⟩⟩, rfl⟩)
 ·obtain ⟨r26, k27, x29, rfl, Kh3, br26, m30, c31, f28, rfl⟩ := q2
  have lr26 : (r26 : Nat) < h3.size := f28.lt
  rw [Ow.sl_len hin] at f28
  refine Ow.Go.norm (S' := [r26]) (st' := [(.ref r26)]) (fun _ q => q) rfl ?_
  refine Ow.astoreN (pc' := 21) (Ls' := #[.val (.ref t), .val (.int (Int32.ofNat i)), .val (.int (Int32.ofNat n)), .val (.ref r26), .unset]) B e31_20 ?_
  refine Ow.aloadN (pc' := 22) B e31_21 ?_
  refine Ow.iloadN (pc' := 23) B e31_22 ?_
  refine Ow.Go.old (fun o32 => ?_)
  refine Ow.callStatic (pc' := 26) (W := 0) (k' := 2) (n' := 12) (argsL := [(.ref r26), (.int (Int32.ofNat n))]) (rest := []) B e31_23 (w227 hw) (w87 hw) (w81 hw) (w88 hw) (gCal1 hw G GS (n := n) o32 f28 hpos (by omega)) pd6 ?_
  intro vq33 h34 S35 q33 zh34
  obtain ⟨rfl, rfl, rfl⟩ := q33
  refine Ow.Go.nr (S' := [r26]) (st' := [(.int 1)]) ?_
  refine Ow.istore (pc' := 28) (Ls' := #[.val (.ref t), .val (.int (Int32.ofNat i)), .val (.int (Int32.ofNat n)), .val (.ref r26), .val (.int 1)]) B e31_26 ?_
  refine Ow.newObj (pc' := 31) (k' := 3) (n' := 16) B e31_28 (w228 hw) (w10 hw) (w11 hw) ?_
  intro h37 a36 ga36 ba36 Kh37 Aa36 Da36
  have zh37 := Kh37.1
  have la36 : (a36 : Nat) < h37.size := Aa36.lt
  have f38 : Fld Z h37 a36 "java/lang/String" "value" "[B" .null := Da36 (Or.inr (w24 hw)) (ty := (.array .byte)) (by decide)
  have f39 : Fld Z h37 a36 "java/lang/String" "coder" "B" (.int 0) := Da36 (Or.inr (w25 hw)) (ty := .byte) (by decide)
  refine Ow.dup (pc' := 32) B e31_31 ?_
  refine Ow.aloadN (pc' := 33) B e31_32 ?_
  refine Ow.iload (pc' := 35) B e31_33 ?_
  refine Ow.Go.old (fun o40 => ?_)
  refine Ow.callInit (pc' := 38) (W := 1) (k' := 3) (n' := 16) (argsL := [(.ref r26), (.int 1)]) (rest := [(.ref a36)]) B e31_35 (w229 hw) (w170 hw) (w11 hw) (w171 hw) (con_init_11 hw G GS (pa0 := a36) (pa1 := r26) o40 Aa36 f39 f38 (by omega)) pd16 ?_
  intro vq41 h42 S43 q41 zh42
  obtain ⟨rfl, Kh42, f44, f45, f46, rfl⟩ := q41
  refine Ow.Go.nr (S' := [a36, r26]) (st' := [(.ref a36)]) ?_
  have f47 := f28.keep Kh37 Ow.nin0
  have f48 := f47.keep Kh42 (Ow.ninS (by omega) Ow.nin0)
  exact Ow.retA (S' := []) (t := (.object "java/lang/String")) B e31_38 (⟨a36, r26, k27, rfl, ((((Keep.refl _ []).trans Kh3 (fun _ q => nomatch q)).trans Kh37 (fun _ q => nomatch q)).trans Kh42 (allS (Or.inr (by omega)) all0)), ⟨f44, f46, (fun x q => hR x (Ow.sl_mem q)), Or.inr ⟨f45, (by rw [Ow.sl_len hin]; exact f48), ⟨x29, m30, c31⟩⟩⟩, rfl⟩)
set_option maxRecDepth 65536 in
set_option maxHeartbeats 40000000 in
theorem con_checkFromToIndex_12 (hw : Hw a0 Z) (G : Ow.Glo Z cz sf) (GS : GlS Z) {px0 : Int32} {px1 : Int32} {px2 : Int32} {pv0 : Value} {h0 : Heap} (O0 : Old Z n0 h0) (hk0 : ¬ (px0 < (0 : Int32))) (hk1 : ¬ (px1 < px0)) (hk2 : ¬ (px2 < px1)) (hv_pv0 : pv0.isRef = true) :
    Ow.Con l Z EL1 n0 my32 jdk_41_method_12_code 4 (Option.some Jvm.ClassFile.FieldType.int) [] ({ frames := 0, cells := 0, slots := 0, locals := 0 } : Room) #[(.int px0), (.int px1), (.int px2), pv0] [] h0 (fun v h S' => (v = some (.int px0) ∧ h = h0 ∧ S' = [])) := by
 rcases ref_cases hv_pv0 with rfl | ⟨sa_pv0, rfl⟩
 ·refine Ow.Con.enter (Ls := #[.val (.int px0), .val (.int px1), .val (.int px2), .val .null]) (plainFor_of_name pn3) O0 (hEW hw) (hSA hw) ?_
  intro p e s m below meth c B
  have z0 := Ow.old_le O0
  refine Ow.iloadN (pc' := 1) B e34_0 ?_
  refine Ow.ifF (pc' := 4) B e34_1 (flt (hk0)).1 ?_
  refine Ow.iloadN (pc' := 5) B e34_4 ?_
  refine Ow.iloadN (pc' := 6) B e34_5 ?_
  refine Ow.icmpF (pc' := 9) B e34_6 (flt (hk1)).2.2.1 ?_
  refine Ow.iloadN (pc' := 10) B e34_9 ?_
  refine Ow.iloadN (pc' := 11) B e34_10 ?_
  refine Ow.icmpT (pc' := 22) B e34_11 (flt (hk2)).2.2.2 ?_
  refine Ow.iloadN (pc' := 23) B e34_22 ?_
  exact Ow.retI (S' := []) (t := .int) B e34_23 (⟨rfl, rfl, rfl⟩)
 ·refine Ow.Con.enter (Ls := #[.val (.int px0), .val (.int px1), .val (.int px2), .val (.ref sa_pv0)]) (plainFor_of_name pn3) O0 (hEW hw) (hSA hw) ?_
  intro p e s m below meth c B
  have z0 := Ow.old_le O0
  refine Ow.iloadN (pc' := 1) B e34_0 ?_
  refine Ow.ifF (pc' := 4) B e34_1 (flt (hk0)).1 ?_
  refine Ow.iloadN (pc' := 5) B e34_4 ?_
  refine Ow.iloadN (pc' := 6) B e34_5 ?_
  refine Ow.icmpF (pc' := 9) B e34_6 (flt (hk1)).2.2.1 ?_
  refine Ow.iloadN (pc' := 10) B e34_9 ?_
  refine Ow.iloadN (pc' := 11) B e34_10 ?_
  refine Ow.icmpT (pc' := 22) B e34_11 (flt (hk2)).2.2.2 ?_
  refine Ow.iloadN (pc' := 23) B e34_22 ?_
  exact Ow.retI (S' := []) (t := .int) B e34_23 (⟨rfl, rfl, rfl⟩)
set_option maxRecDepth 65536 in
set_option maxHeartbeats 40000000 in
theorem con_checkBoundsBeginEnd_13 (hw : Hw a0 Z) (G : Ow.Glo Z cz sf) (GS : GlS Z) {px0 : Int32} {px1 : Int32} {px2 : Int32} {h0 : Heap} (O0 : Old Z n0 h0) (hk0 : ¬ (px0 < (0 : Int32))) (hk1 : ¬ (px1 < px0)) (hk2 : ¬ (px2 < px1)) :
    Ow.Con l Z EL1 n0 my33 jdk_42_method_158_code 3 (Option.none : Option Jvm.ClassFile.FieldType) [] ({ frames := 1, cells := 0, slots := 0, locals := 15 } : Room) #[(.int px0), (.int px1), (.int px2)] [] h0 (fun v h S' => (v = none ∧ h = h0 ∧ S' = [])) := by
 refine Ow.Con.enter (Ls := #[.val (.int px0), .val (.int px1), .val (.int px2)]) (plainFor_of_name pn1) O0 (hEW hw) (hSA hw) ?_
 intro p e s m below meth c B
 have z0 := Ow.old_le O0
 refine Ow.iloadN (pc' := 1) B e33_0 ?_
 refine Ow.iloadN (pc' := 2) B e33_1 ?_
 refine Ow.iloadN (pc' := 3) B e33_2 ?_
 refine Ow.getstatic (pc' := 6) B e33_3 (w106 hw) Via.refl G.2.2.1 ?_
 refine Ow.Go.old (fun o1 => ?_)
 refine Ow.callStatic (pc' := 9) (W := 0) (k' := 0) (n' := 0) (argsL := [(.int px0), (.int px1), (.int px2), sf]) (rest := []) B e33_6 (w147 hw) (w148 hw) (w107 hw) (w149 hw) (con_checkFromToIndex_12 hw G GS (px0 := px0) (px1 := px1) (px2 := px2) (pv0 := sf) o1 (hk0) (hk1) (hk2) (G.2.2.2)) pd17 ?_
 intro vq2 h3 S4 q2 zh3
 obtain ⟨rfl, rfl, rfl⟩ := q2
 refine Ow.Go.nr (S' := []) (st' := [(.int px0)]) ?_
 refine Ow.pop (pc' := 10) B e33_9 ?_
 exact Ow.retV (S' := []) B e33_10 (⟨rfl, rfl, rfl⟩)
set_option maxRecDepth 65536 in
set_option maxHeartbeats 40000000 in
theorem gSub (hw : Hw a0 Z) (G : Ow.Glo Z cz sf) (GS : GlS Z) {h0 : Heap} (O0 : Old Z n0 h0) {b t i e' : Nat} {kt : ClassId} {cs : List Int32} (F : Ow.Chs Z h0 b t kt cs) (hi : i ≤ e') (he : e' ≤ cs.length) (hl : i < e' ∨ Ow.Lat cs) (hC : cs.length ≤ 4) (hN : cs.length ≤ 64) :
    Ow.Con l Z EL1 n0 my34 jdk_42_method_92_code 5 (Option.some (Jvm.ClassFile.FieldType.object "java/lang/String")) [] ({ frames := 6, cells := 3, slots := 16, locals := 94 } : Room) #[(.ref b), (.int (Int32.ofNat i)), (.int (Int32.ofNat e'))] [] h0 (fun v h S' => ∃ r : Nat, ∃ t' : Nat, ∃ kr : ClassId, v = some (.ref r) ∧ Keep h0 h [] ∧ Ow.Chs Z h r t' kr (Ow.sl cs i (e' - i)) ∧ S' = []) := by
 rcases F.2.2.2 with ⟨oc, oa, ol⟩ | ⟨oc, oa, ou⟩
 ·refine Ow.Con.enter (Ls := #[.val (.ref b), .val (.int (Int32.ofNat i)), .val (.int (Int32.ofNat e')), .unset, .unset]) (plainFor_of_name pn1) O0 (hEW hw) (hSA hw) ?_
  intro p e s m below meth c B
  have z0 := Ow.old_le O0
  have lt0 : (t : Nat) < h0.size := F.ltt
  refine Ow.aloadN (pc' := 1) B e32_0 ?_
  refine Ow.Go.old (fun o1 => ?_)
  refine Ow.callVirtual (pc' := 4) (W := 0) (k' := 0) (n' := 0) (argsL := []) (rest := []) (K := "java/lang/String") B e32_1 (w122 hw) (w52 hw) (w54 hw) (w54 hw) (w53 hw) (w11 hw) (w55 hw) F.1 (gLen hw G GS o1 F (by omega)) pd21 ?_
  intro vq2 h3 S4 q2 zh3
  obtain ⟨rfl, rfl, rfl⟩ := q2
  refine Ow.Go.nr (S' := []) (st' := [(.int (Int32.ofNat cs.length))]) ?_
  refine Ow.istoreN (pc' := 5) (Ls' := #[.val (.ref b), .val (.int (Int32.ofNat i)), .val (.int (Int32.ofNat e')), .val (.int (Int32.ofNat cs.length)), .unset]) B e32_4 ?_
  refine Ow.iloadN (pc' := 6) B e32_5 ?_
  refine Ow.iloadN (pc' := 7) B e32_6 ?_
  refine Ow.iloadN (pc' := 8) B e32_7 ?_
  refine Ow.Go.old (fun o5 => ?_)
  refine Ow.callStatic (pc' := 11) (W := 0) (k' := 0) (n' := 0) (argsL := [(.int (Int32.ofNat i)), (.int (Int32.ofNat e')), (.int (Int32.ofNat cs.length))]) (rest := []) B e32_8 (w144 hw) (w145 hw) (w11 hw) (w146 hw) (con_checkBoundsBeginEnd_13 hw G GS (px0 := (Int32.ofNat i)) (px1 := (Int32.ofNat e')) (px2 := (Int32.ofNat cs.length)) o5 (Ow.nn) ((Ow.nlF (by omega))) ((Ow.nlF (by omega)))) pd22 ?_
  intro vq6 h7 S8 q6 zh7
  obtain ⟨rfl, rfl, rfl⟩ := q6
  refine Ow.Go.nr (S' := []) (st' := []) ?_
  refine Ow.iloadN (pc' := 12) B e32_11 ?_
  by_cases c12 : (Int32.ofNat i) = (0 : Int32)
  ·refine Ow.ifF (pc' := 15) B e32_12 (teq c12).2 ?_
   refine Ow.iloadN (pc' := 16) B e32_15 ?_
   refine Ow.iloadN (pc' := 17) B e32_16 ?_
   by_cases c17 : (Int32.ofNat e') = (Int32.ofNat cs.length)
   ·refine Ow.icmpF (pc' := 20) B e32_17 (teq c17).2 ?_
    refine Ow.aloadN (pc' := 21) B e32_20 ?_
    exact Ow.retA (S' := []) (t := (.object "java/lang/String")) B e32_21 (⟨b, t, kt, rfl, Keep.refl _ _, (by rw [Ow.nz c12 (by omega), (Ow.nEq c17 : e' = cs.length)]; simpa [Ow.sl] using F), rfl⟩)
   ·have hf : ¬ (i = 0 ∧ e' - i = cs.length) := fun q => c17 (by rw [show e' = cs.length from by omega])
    refine Ow.icmpT (pc' := 22) B e32_17 (feq c17).2 ?_
    refine Ow.iloadN (pc' := 23) B e32_22 ?_
    refine Ow.iloadN (pc' := 24) B e32_23 ?_
    refine Ow.isub (pc' := 25) (z := (Int32.ofNat (e' - i))) (hz := (Ow.nsub hi)) B e32_24 ?_
    refine Ow.istore (pc' := 27) (Ls' := #[.val (.ref b), .val (.int (Int32.ofNat i)), .val (.int (Int32.ofNat e')), .val (.int (Int32.ofNat cs.length)), .val (.int (Int32.ofNat (e' - i)))]) B e32_25 ?_
    refine Ow.aloadN (pc' := 28) B e32_27 ?_
    refine Ow.Go.old (fun o9 => ?_)
    refine Ow.callVirtual (pc' := 31) (W := 0) (k' := 0) (n' := 0) (argsL := []) (rest := []) (K := "java/lang/String") B e32_28 (w94 hw) (w95 hw) (w97 hw) (w97 hw) (w96 hw) (w11 hw) (w98 hw) F.1 (con_isLatin1_5 hw G GS (pa0 := b) o9 oc) pd13 ?_
    intro vq10 h11 S12 q10 zh11
    obtain ⟨rfl, rfl, rfl⟩ := q10
    refine Ow.Go.nr (S' := []) (st' := [(.int 1)]) ?_
    refine Ow.ifF (pc' := 34) B e32_31 (by decide) ?_
    refine Ow.aloadN (pc' := 35) B e32_34 ?_
    refine Ow.getfield (pc' := 38) B e32_35 (w28 hw) Via.refl F.2.1 ?_
    refine Ow.iloadN (pc' := 39) B e32_38 ?_
    refine Ow.iload (pc' := 41) B e32_39 ?_
    refine Ow.Go.old (fun o13 => ?_)
    refine Ow.callStatic (pc' := 44) (W := 0) (k' := 2) (n' := 12) (argsL := [(.ref t), (.int (Int32.ofNat i)), (.int (Int32.ofNat (e' - i)))]) (rest := []) B e32_41 (w150 hw) (w151 hw) (w101 hw) (w152 hw) (gNsL hw G GS o13 oa F.2.2.1 (by omega) hf hC hN ol) pd23 ?_
    intro vq14 h15 S16 q14 zh15
    obtain ⟨r17, t18, k19, rfl, Kh15, f20, rfl⟩ := q14
    refine Ow.Go.nr (S' := []) (st' := [(.ref r17)]) ?_
    refine Ow.goto (pc' := 57) B e32_44 ?_
    exact Ow.retA (S' := []) (t := (.object "java/lang/String")) B e32_57 (⟨r17, t18, k19, rfl, ((Keep.refl _ []).trans Kh15 (fun _ q => nomatch q)), f20, rfl⟩)
  ·have hf : ¬ (i = 0 ∧ e' - i = cs.length) := fun q => c12 (by rw [q.1]; rfl)
   refine Ow.ifT (pc' := 22) B e32_12 (feq c12).2 ?_
   refine Ow.iloadN (pc' := 23) B e32_22 ?_
   refine Ow.iloadN (pc' := 24) B e32_23 ?_
   refine Ow.isub (pc' := 25) (z := (Int32.ofNat (e' - i))) (hz := (Ow.nsub hi)) B e32_24 ?_
   refine Ow.istore (pc' := 27) (Ls' := #[.val (.ref b), .val (.int (Int32.ofNat i)), .val (.int (Int32.ofNat e')), .val (.int (Int32.ofNat cs.length)), .val (.int (Int32.ofNat (e' - i)))]) B e32_25 ?_
   refine Ow.aloadN (pc' := 28) B e32_27 ?_
   refine Ow.Go.old (fun o21 => ?_)
   refine Ow.callVirtual (pc' := 31) (W := 0) (k' := 0) (n' := 0) (argsL := []) (rest := []) (K := "java/lang/String") B e32_28 (w94 hw) (w95 hw) (w97 hw) (w97 hw) (w96 hw) (w11 hw) (w98 hw) F.1 (con_isLatin1_5 hw G GS (pa0 := b) o21 oc) pd13 ?_
   intro vq22 h23 S24 q22 zh23
   obtain ⟨rfl, rfl, rfl⟩ := q22
   refine Ow.Go.nr (S' := []) (st' := [(.int 1)]) ?_
   refine Ow.ifF (pc' := 34) B e32_31 (by decide) ?_
   refine Ow.aloadN (pc' := 35) B e32_34 ?_
   refine Ow.getfield (pc' := 38) B e32_35 (w28 hw) Via.refl F.2.1 ?_
   refine Ow.iloadN (pc' := 39) B e32_38 ?_
   refine Ow.iload (pc' := 41) B e32_39 ?_
   refine Ow.Go.old (fun o25 => ?_)
   refine Ow.callStatic (pc' := 44) (W := 0) (k' := 2) (n' := 12) (argsL := [(.ref t), (.int (Int32.ofNat i)), (.int (Int32.ofNat (e' - i)))]) (rest := []) B e32_41 (w150 hw) (w151 hw) (w101 hw) (w152 hw) (gNsL hw G GS o25 oa F.2.2.1 (by omega) hf hC hN ol) pd23 ?_
   intro vq26 h27 S28 q26 zh27
   obtain ⟨r29, t30, k31, rfl, Kh27, f32, rfl⟩ := q26
   refine Ow.Go.nr (S' := []) (st' := [(.ref r29)]) ?_
   refine Ow.goto (pc' := 57) B e32_44 ?_
   exact Ow.retA (S' := []) (t := (.object "java/lang/String")) B e32_57 (⟨r29, t30, k31, rfl, ((Keep.refl _ []).trans Kh27 (fun _ q => nomatch q)), f32, rfl⟩)
 ·refine Ow.Con.enter (Ls := #[.val (.ref b), .val (.int (Int32.ofNat i)), .val (.int (Int32.ofNat e')), .unset, .unset]) (plainFor_of_name pn1) O0 (hEW hw) (hSA hw) ?_
  intro p e s m below meth c B
  have z0 := Ow.old_le O0
  have lt0 : (t : Nat) < h0.size := F.ltt
  refine Ow.aloadN (pc' := 1) B e32_0 ?_
  refine Ow.Go.old (fun o1 => ?_)
  refine Ow.callVirtual (pc' := 4) (W := 0) (k' := 0) (n' := 0) (argsL := []) (rest := []) (K := "java/lang/String") B e32_1 (w122 hw) (w52 hw) (w54 hw) (w54 hw) (w53 hw) (w11 hw) (w55 hw) F.1 (gLen hw G GS o1 F (by omega)) pd21 ?_
  intro vq2 h3 S4 q2 zh3
  obtain ⟨rfl, rfl, rfl⟩ := q2
  refine Ow.Go.nr (S' := []) (st' := [(.int (Int32.ofNat cs.length))]) ?_
  refine Ow.istoreN (pc' := 5) (Ls' := #[.val (.ref b), .val (.int (Int32.ofNat i)), .val (.int (Int32.ofNat e')), .val (.int (Int32.ofNat cs.length)), .unset]) B e32_4 ?_
  refine Ow.iloadN (pc' := 6) B e32_5 ?_
  refine Ow.iloadN (pc' := 7) B e32_6 ?_
  refine Ow.iloadN (pc' := 8) B e32_7 ?_
  refine Ow.Go.old (fun o5 => ?_)
  refine Ow.callStatic (pc' := 11) (W := 0) (k' := 0) (n' := 0) (argsL := [(.int (Int32.ofNat i)), (.int (Int32.ofNat e')), (.int (Int32.ofNat cs.length))]) (rest := []) B e32_8 (w144 hw) (w145 hw) (w11 hw) (w146 hw) (con_checkBoundsBeginEnd_13 hw G GS (px0 := (Int32.ofNat i)) (px1 := (Int32.ofNat e')) (px2 := (Int32.ofNat cs.length)) o5 (Ow.nn) ((Ow.nlF (by omega))) ((Ow.nlF (by omega)))) pd22 ?_
  intro vq6 h7 S8 q6 zh7
  obtain ⟨rfl, rfl, rfl⟩ := q6
  refine Ow.Go.nr (S' := []) (st' := []) ?_
  refine Ow.iloadN (pc' := 12) B e32_11 ?_
  by_cases c12 : (Int32.ofNat i) = (0 : Int32)
  ·refine Ow.ifF (pc' := 15) B e32_12 (teq c12).2 ?_
   refine Ow.iloadN (pc' := 16) B e32_15 ?_
   refine Ow.iloadN (pc' := 17) B e32_16 ?_
   by_cases c17 : (Int32.ofNat e') = (Int32.ofNat cs.length)
   ·refine Ow.icmpF (pc' := 20) B e32_17 (teq c17).2 ?_
    refine Ow.aloadN (pc' := 21) B e32_20 ?_
    exact Ow.retA (S' := []) (t := (.object "java/lang/String")) B e32_21 (⟨b, t, kt, rfl, Keep.refl _ _, (by rw [Ow.nz c12 (by omega), (Ow.nEq c17 : e' = cs.length)]; simpa [Ow.sl] using F), rfl⟩)
   ·have hf : ¬ (i = 0 ∧ e' - i = cs.length) := fun q => c17 (by rw [show e' = cs.length from by omega])
    refine Ow.icmpT (pc' := 22) B e32_17 (feq c17).2 ?_
    refine Ow.iloadN (pc' := 23) B e32_22 ?_
    refine Ow.iloadN (pc' := 24) B e32_23 ?_
    refine Ow.isub (pc' := 25) (z := (Int32.ofNat (e' - i))) (hz := (Ow.nsub hi)) B e32_24 ?_
    refine Ow.istore (pc' := 27) (Ls' := #[.val (.ref b), .val (.int (Int32.ofNat i)), .val (.int (Int32.ofNat e')), .val (.int (Int32.ofNat cs.length)), .val (.int (Int32.ofNat (e' - i)))]) B e32_25 ?_
    refine Ow.aloadN (pc' := 28) B e32_27 ?_
    refine Ow.Go.old (fun o9 => ?_)
    refine Ow.callVirtual (pc' := 31) (W := 0) (k' := 0) (n' := 0) (argsL := []) (rest := []) (K := "java/lang/String") B e32_28 (w94 hw) (w95 hw) (w97 hw) (w97 hw) (w96 hw) (w11 hw) (w98 hw) F.1 (con_isLatin1_6 hw G GS (pa0 := b) o9 oc) pd13 ?_
    intro vq10 h11 S12 q10 zh11
    obtain ⟨rfl, rfl, rfl⟩ := q10
    refine Ow.Go.nr (S' := []) (st' := [(.int 0)]) ?_
    refine Ow.ifT (pc' := 47) B e32_31 (by decide) ?_
    refine Ow.aloadN (pc' := 48) B e32_47 ?_
    refine Ow.getfield (pc' := 51) B e32_48 (w28 hw) Via.refl F.2.1 ?_
    refine Ow.iloadN (pc' := 52) B e32_51 ?_
    refine Ow.iload (pc' := 54) B e32_52 ?_
    refine Ow.Go.old (fun o13 => ?_)
    refine Ow.callStatic (pc' := 57) (W := 0) (k' := 3) (n' := 16) (argsL := [(.ref t), (.int (Int32.ofNat i)), (.int (Int32.ofNat (e' - i)))]) (rest := []) B e32_54 (w207 hw) (w208 hw) (w81 hw) (w209 hw) (gNsU hw G GS o13 oa F.2.2.1 (by omega) hf hC hN (hl.elim (fun q => by omega) (fun q => ou.elim fun y u => absurd u.2 (q y u.1)))) pd23 ?_
    intro vq14 h15 S16 q14 zh15
    obtain ⟨r17, t18, k19, rfl, Kh15, f20, rfl⟩ := q14
    refine Ow.Go.nr (S' := []) (st' := [(.ref r17)]) ?_
    exact Ow.retA (S' := []) (t := (.object "java/lang/String")) B e32_57 (⟨r17, t18, k19, rfl, ((Keep.refl _ []).trans Kh15 (fun _ q => nomatch q)), f20, rfl⟩)
  ·have hf : ¬ (i = 0 ∧ e' - i = cs.length) := fun q => c12 (by rw [q.1]; rfl)
   refine Ow.ifT (pc' := 22) B e32_12 (feq c12).2 ?_
   refine Ow.iloadN (pc' := 23) B e32_22 ?_
   refine Ow.iloadN (pc' := 24) B e32_23 ?_
   refine Ow.isub (pc' := 25) (z := (Int32.ofNat (e' - i))) (hz := (Ow.nsub hi)) B e32_24 ?_
   refine Ow.istore (pc' := 27) (Ls' := #[.val (.ref b), .val (.int (Int32.ofNat i)), .val (.int (Int32.ofNat e')), .val (.int (Int32.ofNat cs.length)), .val (.int (Int32.ofNat (e' - i)))]) B e32_25 ?_
   refine Ow.aloadN (pc' := 28) B e32_27 ?_
   refine Ow.Go.old (fun o21 => ?_)
   refine Ow.callVirtual (pc' := 31) (W := 0) (k' := 0) (n' := 0) (argsL := []) (rest := []) (K := "java/lang/String") B e32_28 (w94 hw) (w95 hw) (w97 hw) (w97 hw) (w96 hw) (w11 hw) (w98 hw) F.1 (con_isLatin1_6 hw G GS (pa0 := b) o21 oc) pd13 ?_
   intro vq22 h23 S24 q22 zh23
   obtain ⟨rfl, rfl, rfl⟩ := q22
   refine Ow.Go.nr (S' := []) (st' := [(.int 0)]) ?_
   refine Ow.ifT (pc' := 47) B e32_31 (by decide) ?_
   refine Ow.aloadN (pc' := 48) B e32_47 ?_
   refine Ow.getfield (pc' := 51) B e32_48 (w28 hw) Via.refl F.2.1 ?_
   refine Ow.iloadN (pc' := 52) B e32_51 ?_
   refine Ow.iload (pc' := 54) B e32_52 ?_
   refine Ow.Go.old (fun o25 => ?_)
   refine Ow.callStatic (pc' := 57) (W := 0) (k' := 3) (n' := 16) (argsL := [(.ref t), (.int (Int32.ofNat i)), (.int (Int32.ofNat (e' - i)))]) (rest := []) B e32_54 (w207 hw) (w208 hw) (w81 hw) (w209 hw) (gNsU hw G GS o25 oa F.2.2.1 (by omega) hf hC hN (hl.elim (fun q => by omega) (fun q => ou.elim fun y u => absurd u.2 (q y u.1)))) pd23 ?_
   intro vq26 h27 S28 q26 zh27
   obtain ⟨r29, t30, k31, rfl, Kh27, f32, rfl⟩ := q26
   refine Ow.Go.nr (S' := []) (st' := [(.ref r29)]) ?_
   exact Ow.retA (S' := []) (t := (.object "java/lang/String")) B e32_57 (⟨r29, t30, k31, rfl, ((Keep.refl _ []).trans Kh27 (fun _ q => nomatch q)), f32, rfl⟩)
set_option maxRecDepth 65536 in
set_option maxHeartbeats 40000000 in
theorem con_sel_14 (hw : Hw a0 Z) (G : Ow.Glo Z cz sf) (GS : GlS Z) {px0 : Int32} {h0 : Heap} (O0 : Old Z n0 h0) :
    Ow.Con l Z EL1 n0 my35 method_2_code 2 (Option.some Jvm.ClassFile.FieldType.char) [] ({ frames := 0, cells := 0, slots := 0, locals := 0 } : Room) #[(.int px0)] [] h0 (fun v h S' => (∃ i0 : Int32, v = some (.int i0) ∧ h = h0 ∧ ¬ (i0 < (0 : Int32)) ∧ ¬ ((65535 : Int32) < i0) ∧ nar .char i0 = i0 ∧ S' = [])) := by
 refine Ow.Con.enter (Ls := #[.val (.int px0), .unset]) (plainFor_of_name pn5) O0 (hEW hw) (hSA hw) ?_
 intro p e s m below meth c B
 have z0 := Ow.old_le O0
 refine Ow.iloadN (pc' := 1) B e35_0 ?_
 refine Ow.bipush (pc' := 3) (x := 7) B e35_1 ?_
 refine Ow.iand (pc' := 4) (z := (px0 &&& (7 : Int32))) B e35_3 ?_
 refine Ow.istoreN (pc' := 5) (Ls' := #[.val (.int px0), .val (.int (px0 &&& (7 : Int32)))]) B e35_4 ?_
 refine Ow.iloadN (pc' := 6) B e35_5 ?_
 by_cases c1 : (px0 &&& (7 : Int32)) = (0 : Int32)
 ·refine Ow.ifF (pc' := 9) B e35_6 (teq c1).2 ?_
  refine Ow.bipush (pc' := 11) (x := 32) B e35_9 ?_
  exact Ow.retI (S' := []) (t := .char) B e35_11 (⟨(32 : Int32), rfl, rfl, (by decide), (by decide), (by decide), rfl⟩)
 ·refine Ow.ifT (pc' := 12) B e35_6 (feq c1).2 ?_
  refine Ow.iloadN (pc' := 13) B e35_12 ?_
  refine Ow.iconst (pc' := 14) (x := 1) B e35_13 ?_
  by_cases c2 : (px0 &&& (7 : Int32)) = (1 : Int32)
  ·refine Ow.icmpF (pc' := 17) B e35_14 (teq c2).2 ?_
   refine Ow.bipush (pc' := 19) (x := 59) B e35_17 ?_
   exact Ow.retI (S' := []) (t := .char) B e35_19 (⟨(59 : Int32), rfl, rfl, (by decide), (by decide), (by decide), rfl⟩)
  ·refine Ow.icmpT (pc' := 20) B e35_14 (feq c2).2 ?_
   refine Ow.iloadN (pc' := 21) B e35_20 ?_
   refine Ow.iconst (pc' := 22) (x := 2) B e35_21 ?_
   by_cases c3 : (px0 &&& (7 : Int32)) = (2 : Int32)
   ·refine Ow.icmpF (pc' := 25) B e35_22 (teq c3).2 ?_
    refine Ow.bipush (pc' := 27) (x := 44) B e35_25 ?_
    exact Ow.retI (S' := []) (t := .char) B e35_27 (⟨(44 : Int32), rfl, rfl, (by decide), (by decide), (by decide), rfl⟩)
   ·refine Ow.icmpT (pc' := 28) B e35_22 (feq c3).2 ?_
    refine Ow.iloadN (pc' := 29) B e35_28 ?_
    refine Ow.iconst (pc' := 30) (x := 3) B e35_29 ?_
    by_cases c4 : (px0 &&& (7 : Int32)) = (3 : Int32)
    ·refine Ow.icmpF (pc' := 33) B e35_30 (teq c4).2 ?_
     refine Ow.bipush (pc' := 35) (x := 58) B e35_33 ?_
     exact Ow.retI (S' := []) (t := .char) B e35_35 (⟨(58 : Int32), rfl, rfl, (by decide), (by decide), (by decide), rfl⟩)
    ·refine Ow.icmpT (pc' := 36) B e35_30 (feq c4).2 ?_
     refine Ow.iloadN (pc' := 37) B e35_36 ?_
     refine Ow.iconst (pc' := 38) (x := 4) B e35_37 ?_
     by_cases c5 : (px0 &&& (7 : Int32)) = (4 : Int32)
     ·refine Ow.icmpF (pc' := 41) B e35_38 (teq c5).2 ?_
      refine Ow.bipush (pc' := 43) (x := 46) B e35_41 ?_
      exact Ow.retI (S' := []) (t := .char) B e35_43 (⟨(46 : Int32), rfl, rfl, (by decide), (by decide), (by decide), rfl⟩)
     ·refine Ow.icmpT (pc' := 44) B e35_38 (feq c5).2 ?_
      refine Ow.iloadN (pc' := 45) B e35_44 ?_
      refine Ow.iconst (pc' := 46) (x := 5) B e35_45 ?_
      by_cases c6 : (px0 &&& (7 : Int32)) = (5 : Int32)
      ·refine Ow.icmpF (pc' := 49) B e35_46 (teq c6).2 ?_
       refine Ow.bipush (pc' := 51) (x := 32) B e35_49 ?_
       exact Ow.retI (S' := []) (t := .char) B e35_51 (⟨(32 : Int32), rfl, rfl, (by decide), (by decide), (by decide), rfl⟩)
      ·refine Ow.icmpT (pc' := 52) B e35_46 (feq c6).2 ?_
       refine Ow.iloadN (pc' := 53) B e35_52 ?_
       refine Ow.bipush (pc' := 55) (x := 6) B e35_53 ?_
       by_cases c7 : (px0 &&& (7 : Int32)) = (6 : Int32)
       ·refine Ow.icmpF (pc' := 58) B e35_55 (teq c7).2 ?_
        refine Ow.bipush (pc' := 60) (x := 97) B e35_58 ?_
        exact Ow.retI (S' := []) (t := .char) B e35_60 (⟨(97 : Int32), rfl, rfl, (by decide), (by decide), (by decide), rfl⟩)
       ·refine Ow.icmpT (pc' := 61) B e35_55 (feq c7).2 ?_
        refine Ow.iloadN (pc' := 62) B e35_61 ?_
        refine Ow.iconst (pc' := 63) (x := 3) B e35_62 ?_
        refine Ow.iushr (pc' := 64) (z := (Jvm.Free.XT.ushr px0 (3 : Int32))) B e35_63 ?_
        refine Ow.ldcInt (pc' := 66) B e35_64 (w78 hw) ?_
        refine Ow.iand (pc' := 67) (z := ((Jvm.Free.XT.ushr px0 (3 : Int32)) &&& (65535 : Int32))) B e35_66 ?_
        obtain ⟨c8, hc8⟩ : ∃ z : Int32, ((Jvm.Free.XT.ushr px0 (3 : Int32)) &&& (65535 : Int32)).toUInt32.toUInt16.toUInt32.toInt32 = z := ⟨_, rfl⟩
        refine Ow.i2c (pc' := 68) (z := c8) (hz := hc8) B e35_67 ?_
        exact Ow.retI (S' := []) (t := .char) (hnn := (Ow.cnarrow (Ow.cnar hc8))) B e35_68 (⟨c8, rfl, rfl, (Ow.cge0 hc8), (Ow.cle16 hc8), (Ow.cnar hc8), rfl⟩)
set_option maxRecDepth 65536 in
set_option maxHeartbeats 40000000 in
theorem con_str_15 (hw : Hw a0 Z) (G : Ow.Glo Z cz sf) (GS : GlS Z) {pa0 : Nat} {h0 : Heap} (O0 : Old Z n0 h0) :
    Ow.Con l Z EL1 n0 my36 method_3_code 2 (Option.some (Jvm.ClassFile.FieldType.object "java/lang/String")) [] ({ frames := 6, cells := 6, slots := 16, locals := 88 } : Room) #[(.int 0), (.ref pa0)] [] h0 (fun v h S' => (∃ r0 : Nat, ∃ r1 : Nat, ∃ k0 : ClassId, v = some (.ref r0) ∧ Keep h0 h [] ∧ h0.size ≤ r0 ∧ Ow.Chs Z h r0 r1 k0 [] ∧ S' = [])) := by
 refine Ow.Con.enter (Ls := #[.val (.int 0), .val (.ref pa0)]) (plainFor_of_name pn5) O0 (hEW hw) (hSA hw) ?_
 intro p e s m below meth c B
 have z0 := Ow.old_le O0
 refine Ow.iloadN (pc' := 1) B e36_0 ?_
 refine Ow.ifF (pc' := 4) B e36_1 (by decide) ?_
 refine Ow.newObj (pc' := 7) (k' := 1) (n' := 4) B e36_4 (w9 hw) (w10 hw) (w11 hw) ?_
 intro h2 a1 ga1 ba1 Kh2 Aa1 Da1
 have zh2 := Kh2.1
 have la1 : (a1 : Nat) < h2.size := Aa1.lt
 have f3 : Fld Z h2 a1 "java/lang/String" "value" "[B" .null := Da1 (Or.inr (w24 hw)) (ty := (.array .byte)) (by decide)
 have f4 : Fld Z h2 a1 "java/lang/String" "coder" "B" (.int 0) := Da1 (Or.inr (w25 hw)) (ty := .byte) (by decide)
 refine Ow.dup (pc' := 8) B e36_7 ?_
 refine Ow.iconst (pc' := 9) (x := 0) B e36_8 ?_
 refine Ow.newArr (pc' := 11) (k' := 2) (n' := 4) (cap := 0) B e36_9 (w1 hw) (by decide) (by decide) ?_
 intro h6 a5 ka5 ga5 ba5 Kh6 V0a5
 have zh6 := Kh6.1
 have la5 : (a5 : Nat) < h6.size := V0a5.lt
 have Va5 : Arv Z h6 a5 ka5 .char (0 : Int32) [] (.int 0) := V0a5.pad (pad_rep [] (.int 0) 0)
 have f7 := Aa1.keep Kh6
 have f8 := f3.keep Kh6 Ow.nin0
 have f9 := f4.keep Kh6 Ow.nin0
 refine Ow.Go.old (fun o10 => ?_)
 refine Ow.callInit (pc' := 14) (W := 1) (k' := 6) (n' := 16) (argsL := [(.ref a5)]) (rest := [(.ref a1)]) B e36_11 (w12 hw) (w13 hw) (w11 hw) (w14 hw) (gIni hw G GS (cs := []) o10 Va5 f7 f8 f9 (by omega) (by omega) Ow.allI0 (by simp) (by simp)) pd25 ?_
 intro vq11 h12 S13 q11 zh12
 obtain ⟨t14, k15, rfl, Kh12, f16, rfl⟩ := q11
 have lt14 : (t14 : Nat) < h12.size := f16.ltt
 refine Ow.Go.nr (S' := [a5, a1]) (st' := [(.ref a1)]) ?_
 exact Ow.retA (S' := []) (t := (.object "java/lang/String")) B e36_14 (⟨a1, t14, k15, rfl, ((((Keep.refl _ []).trans Kh2 (fun _ q => nomatch q)).trans Kh6 (fun _ q => nomatch q)).trans Kh12 (allS (Or.inr (by omega)) all0)), (by omega), f16, rfl⟩)
set_option maxRecDepth 65536 in
set_option maxHeartbeats 40000000 in
theorem con_init_16 (hw : Hw a0 Z) (G : Ow.Glo Z cz sf) (GS : GlS Z) {pa0 : Nat} {h0 : Heap} (O0 : Old Z n0 h0) :
    Ow.Con l Z EL1 n0 my37 jdk_30_method_1_code 1 (Option.none : Option Jvm.ClassFile.FieldType) [] ({ frames := 1, cells := 0, slots := 0, locals := 12 } : Room) #[(.ref pa0)] [] h0 (fun v h S' => (v = none ∧ h = h0 ∧ S' = [])) := by
 refine Ow.Con.enter (Ls := #[.val (.ref pa0)]) (plainFor_of_name pn7) O0 (hEW hw) (hSA hw) ?_
 intro p e s m below meth c B
 have z0 := Ow.old_le O0
 refine Ow.aloadN (pc' := 1) B e38_0 ?_
 refine Ow.objInit (pc' := 4) (W := 0) B e38_1 (w41 hw) (w20 hw) (w21 hw) ?_
 exact Ow.retV (S' := []) B e38_4 (⟨rfl, rfl, rfl⟩)
set_option maxRecDepth 65536 in
set_option maxHeartbeats 40000000 in
theorem con_init_17 (hw : Hw a0 Z) (G : Ow.Glo Z cz sf) (GS : GlS Z) {pa0 : Nat} {pa1 : Nat} {px0 : Int32} {h0 : Heap} (O0 : Old Z n0 h0) (hf0 : Exa Z h0 pa0 "com/example/elsewhere/elsewhere/Field$Subfield") (hf1 : Fld Z h0 pa0 "com/example/elsewhere/elsewhere/Field$Subfield" "code" "I" (.int 0)) (hf2 : Fld Z h0 pa0 "com/example/elsewhere/elsewhere/Field$Subfield" "value" "Ljava/lang/String;" .null) (hn0 : n0 ≤ pa0) :
    Ow.Con l Z EL1 n0 my38 prog_11_method_1_code 3 (Option.none : Option Jvm.ClassFile.FieldType) [] ({ frames := 2, cells := 0, slots := 0, locals := 24 } : Room) #[(.ref pa0), (.int px0), (.ref pa1)] [] h0 (fun v h S' => (v = none ∧ Keep h0 h [pa0] ∧ Exa Z h pa0 "com/example/elsewhere/elsewhere/Field$Subfield" ∧ Fld Z h pa0 "com/example/elsewhere/elsewhere/Field$Subfield" "code" "I" (.int px0) ∧ Fld Z h pa0 "com/example/elsewhere/elsewhere/Field$Subfield" "value" "Ljava/lang/String;" (.ref pa1) ∧ S' = [])) := by
 refine Ow.Con.enter (Ls := #[.val (.ref pa0), .val (.int px0), .val (.ref pa1)]) (plainFor_of_name pn6) O0 (hEW hw) (hSA hw) ?_
 intro p e s m below meth c B
 have z0 := Ow.old_le O0
 have lpa0 : (pa0 : Nat) < h0.size := hf0.lt
 refine Ow.aloadN (pc' := 1) B e37_0 ?_
 refine Ow.Go.old (fun o1 => ?_)
 refine Ow.callInit (pc' := 4) (W := 0) (k' := 0) (n' := 0) (argsL := []) (rest := []) B e37_1 (w36 hw) (w37 hw) (w39 hw) (w40 hw) (con_init_16 hw G GS (pa0 := pa0) o1) pd27 ?_
 intro vq2 h3 S4 q2 zh3
 obtain ⟨rfl, rfl, rfl⟩ := q2
 refine Ow.Go.nr (S' := []) (st' := []) ?_
 refine Ow.aloadN (pc' := 5) B e37_4 ?_
 refine Ow.iloadN (pc' := 6) B e37_5 ?_
 refine Ow.putfield (pc' := 9) (ty := .int) B e37_6 (w42 hw) Via.refl hf1 hf0 (Or.inr ⟨(w43 hw), rfl, rfl⟩) (w31 hw) (Or.inr ⟨by decide, by decide⟩) ?_
 intro h5 Wh5
 have Kh5 := Keep.of_wr Wh5
 have zh5 := Kh5.1
 have f6 : Fld Z h5 pa0 "com/example/elsewhere/elsewhere/Field$Subfield" "code" "I" (.int px0) := hf1.same Wh5
 have f7 : Fld Z h5 pa0 "com/example/elsewhere/elsewhere/Field$Subfield" "value" "Ljava/lang/String;" .null := hf2.other Wh5 (Or.inr (slot_ne (a0 := a0) (C := "com/example/elsewhere/elsewhere/Field$Subfield") (t := (.object "java/lang/String")) (t' := .int) (Or.inr (w45 hw)) (Or.inr (w43 hw)) (by decide) (by decide) (by decide)))
 refine Ow.aloadN (pc' := 10) B e37_9 ?_
 refine Ow.aloadN (pc' := 11) B e37_10 ?_
 have f8 := hf0.keep Kh5
 refine Ow.putfield (pc' := 14) (ty := (.object "java/lang/String")) B e37_11 (w44 hw) Via.refl f7 f8 (Or.inr ⟨(w45 hw), rfl, rfl⟩) (w31 hw) (Or.inr ⟨by decide, by decide⟩) ?_
 intro h9 Wh9
 have Kh9 := Keep.of_wr Wh9
 have zh9 := Kh9.1
 have f10 : Fld Z h9 pa0 "com/example/elsewhere/elsewhere/Field$Subfield" "value" "Ljava/lang/String;" (.ref pa1) := f7.same Wh9
 have f11 : Fld Z h9 pa0 "com/example/elsewhere/elsewhere/Field$Subfield" "code" "I" (.int px0) := f6.other Wh9 (Or.inr (slot_ne (a0 := a0) (C := "com/example/elsewhere/elsewhere/Field$Subfield") (t := .int) (t' := (.object "java/lang/String")) (Or.inr (w43 hw)) (Or.inr (w45 hw)) (by decide) (by decide) (by decide)))
 have f12 := f8.keep Kh9
 exact Ow.retV (S' := []) B e37_14 (⟨rfl, (((Keep.refl _ [pa0]).trans Kh5 (allS (Or.inl (by simp)) all0)).trans Kh9 (allS (Or.inl (by simp)) all0)), f12, f11, f10, rfl⟩)
set_option maxRecDepth 65536 in
set_option maxHeartbeats 40000000 in
theorem con_endBeforeSpaces_18 (hw : Hw a0 Z) (G : Ow.Glo Z cz sf) (GS : GlS Z) {pa0 : Nat} {h0 : Heap} (O0 : Old Z n0 h0) :
    Ow.Con l Z EL1 n0 my39 prog_11_method_5_code 4 (Option.some Jvm.ClassFile.FieldType.int) [] ({ frames := 0, cells := 0, slots := 0, locals := 0 } : Room) #[(.ref pa0), (.int 0), (.int 0)] [] h0 (fun v h S' => (v = some (.int 0) ∧ h = h0 ∧ S' = [])) := by
 refine Ow.Con.enter (Ls := #[.val (.ref pa0), .val (.int 0), .val (.int 0), .unset]) (plainFor_of_name pn6) O0 (hEW hw) (hSA hw) ?_
 intro p e s m below meth c B
 have z0 := Ow.old_le O0
 refine Ow.iloadN (pc' := 1) B e40_0 ?_
 refine Ow.istoreN (pc' := 2) (Ls' := #[.val (.ref pa0), .val (.int 0), .val (.int 0), .val (.int 0)]) B e40_1 ?_
 refine Ow.iloadN (pc' := 3) B e40_2 ?_
 refine Ow.iloadN (pc' := 4) B e40_3 ?_
 refine Ow.icmpT (pc' := 28) B e40_4 (by decide) ?_
 refine Ow.iloadN (pc' := 29) B e40_28 ?_
 exact Ow.retI (S' := []) (t := .int) B e40_29 (⟨rfl, rfl, rfl⟩)
set_option maxRecDepth 65536 in
set_option maxHeartbeats 40000000 in
theorem con_endBeforeSeparator_19 (hw : Hw a0 Z) (G : Ow.Glo Z cz sf) (GS : GlS Z) {pa0 : Nat} {h0 : Heap} (O0 : Old Z n0 h0) :
    Ow.Con l Z EL1 n0 my40 prog_11_method_4_code 3 (Option.some Jvm.ClassFile.FieldType.int) [] ({ frames := 0, cells := 0, slots := 0, locals := 0 } : Room) #[(.ref pa0), (.int 0), (.int 0)] [] h0 (fun v h S' => (v = some (.int 0) ∧ h = h0 ∧ S' = [])) := by
 refine Ow.Con.enter (Ls := #[.val (.ref pa0), .val (.int 0), .val (.int 0)]) (plainFor_of_name pn6) O0 (hEW hw) (hSA hw) ?_
 intro p e s m below meth c B
 have z0 := Ow.old_le O0
 refine Ow.iloadN (pc' := 1) B e41_0 ?_
 refine Ow.iloadN (pc' := 2) B e41_1 ?_
 refine Ow.icmpT (pc' := 34) B e41_2 (by decide) ?_
 refine Ow.iloadN (pc' := 35) B e41_34 ?_
 exact Ow.retI (S' := []) (t := .int) B e41_35 (⟨rfl, rfl, rfl⟩)
set_option maxRecDepth 65536 in
set_option maxHeartbeats 40000000 in
theorem con_withoutSeparator_20 (hw : Hw a0 Z) (G : Ow.Glo Z cz sf) (GS : GlS Z) {pa0 : Nat} {pa1 : Nat} {pa2 : Nat} {pk0 : ClassId} {h0 : Heap} (O0 : Old Z n0 h0) (hf0 : Exa Z h0 pa0 "com/example/elsewhere/elsewhere/Field$Subfield") (hf1 : Fld Z h0 pa0 "com/example/elsewhere/elsewhere/Field$Subfield" "value" "Ljava/lang/String;" (.ref pa1)) (hf2 : Ow.Chs Z h0 pa1 pa2 pk0 []) (hn0 : n0 ≤ pa0) (hn1 : n0 ≤ pa1) :
    Ow.Con l Z EL1 n0 my41 prog_11_method_3_code 3 (Option.some (Jvm.ClassFile.FieldType.object "java/lang/String")) [] ({ frames := 2, cells := 0, slots := 0, locals := 27 } : Room) #[(.ref pa0)] [] h0 (fun v h S' => (v = some (.ref pa1) ∧ h = h0 ∧ S' = [])) := by
 refine Ow.Con.enter (Ls := #[.val (.ref pa0), .unset, .unset]) (plainFor_of_name pn6) O0 (hEW hw) (hSA hw) ?_
 intro p e s m below meth c B
 have z0 := Ow.old_le O0
 have lpa0 : (pa0 : Nat) < h0.size := hf0.lt
 have lpa1 : (pa1 : Nat) < h0.size := hf2.lt
 have lpa2 : (pa2 : Nat) < h0.size := hf2.ltt
 refine Ow.aloadN (pc' := 1) B e39_0 ?_
 refine Ow.iconst (pc' := 2) (x := 0) B e39_1 ?_
 refine Ow.aloadN (pc' := 3) B e39_2 ?_
 refine Ow.getfield (pc' := 6) B e39_3 (w44 hw) Via.refl hf1 ?_
 refine Ow.Go.old (fun o1 => ?_)
 refine Ow.callVirtual (pc' := 9) (W := 2) (k' := 0) (n' := 0) (argsL := []) (rest := [(.int 0), (.ref pa0)]) (K := "java/lang/String") B e39_6 (w51 hw) (w52 hw) (w54 hw) (w54 hw) (w53 hw) (w11 hw) (w55 hw) (hf2).1 (gLen hw G GS o1 hf2 (by simp)) pd21 ?_
 intro vq2 h3 S4 q2 zh3
 obtain ⟨rfl, rfl, rfl⟩ := q2
 refine Ow.Go.nr (S' := []) (st' := [(.int 0), (.int 0), (.ref pa0)]) ?_
 refine Ow.Go.old (fun o5 => ?_)
 refine Ow.callPrivate (pc' := 12) (W := 0) (k' := 0) (n' := 0) (argsL := [(.int 0), (.int 0)]) (rest := []) (K := "com/example/elsewhere/elsewhere/Field$Subfield") B e39_9 (w62 hw) (w63 hw) (w64 hw) (w31 hw) (w32 hw) (w65 hw) hf0 (con_endBeforeSpaces_18 hw G GS (pa0 := pa0) o5) pd14 ?_
 intro vq6 h7 S8 q6 zh7
 obtain ⟨rfl, rfl, rfl⟩ := q6
 refine Ow.Go.nr (S' := []) (st' := [(.int 0)]) ?_
 refine Ow.istoreN (pc' := 13) (Ls' := #[.val (.ref pa0), .val (.int 0), .unset]) B e39_12 ?_
 refine Ow.aloadN (pc' := 14) B e39_13 ?_
 refine Ow.iconst (pc' := 15) (x := 0) B e39_14 ?_
 refine Ow.iloadN (pc' := 16) B e39_15 ?_
 refine Ow.Go.old (fun o9 => ?_)
 refine Ow.callPrivate (pc' := 19) (W := 0) (k' := 0) (n' := 0) (argsL := [(.int 0), (.int 0)]) (rest := []) (K := "com/example/elsewhere/elsewhere/Field$Subfield") B e39_16 (w66 hw) (w67 hw) (w68 hw) (w31 hw) (w32 hw) (w69 hw) hf0 (con_endBeforeSeparator_19 hw G GS (pa0 := pa0) o9) pd14 ?_
 intro vq10 h11 S12 q10 zh11
 obtain ⟨rfl, rfl, rfl⟩ := q10
 refine Ow.Go.nr (S' := []) (st' := [(.int 0)]) ?_
 refine Ow.istoreN (pc' := 20) (Ls' := #[.val (.ref pa0), .val (.int 0), .val (.int 0)]) B e39_19 ?_
 refine Ow.iloadN (pc' := 21) B e39_20 ?_
 refine Ow.iloadN (pc' := 22) B e39_21 ?_
 refine Ow.icmpF (pc' := 25) B e39_22 (by decide) ?_
 refine Ow.aloadN (pc' := 26) B e39_25 ?_
 refine Ow.getfield (pc' := 29) B e39_26 (w44 hw) Via.refl hf1 ?_
 refine Ow.goto (pc' := 41) B e39_29 ?_
 exact Ow.retA (S' := []) (t := (.object "java/lang/String")) B e39_41 (⟨rfl, rfl, rfl⟩)
set_option maxRecDepth 65536 in
set_option maxHeartbeats 40000000 in
theorem con_strip_21 (hw : Hw a0 Z) (G : Ow.Glo Z cz sf) (GS : GlS Z) {pa0 : Nat} {h0 : Heap} (O0 : Old Z n0 h0) :
    Ow.Con l Z EL1 n0 my42 method_4_code 3 (Option.some Jvm.ClassFile.FieldType.int) [] ({ frames := 0, cells := 0, slots := 0, locals := 0 } : Room) #[(.ref pa0), (.int 0)] [] h0 (fun v h S' => (v = some (.int 0) ∧ h = h0 ∧ S' = [])) := by
 refine Ow.Con.enter (Ls := #[.val (.ref pa0), .val (.int 0), .unset]) (plainFor_of_name pn5) O0 (hEW hw) (hSA hw) ?_
 intro p e s m below meth c B
 have z0 := Ow.old_le O0
 refine Ow.iloadN (pc' := 1) B e42_0 ?_
 refine Ow.istoreN (pc' := 2) (Ls' := #[.val (.ref pa0), .val (.int 0), .val (.int 0)]) B e42_1 ?_
 refine Ow.iloadN (pc' := 3) B e42_2 ?_
 refine Ow.ifT (pc' := 19) B e42_3 (by decide) ?_
 refine Ow.iloadN (pc' := 20) B e42_19 ?_
 refine Ow.ifT (pc' := 36) B e42_20 (by decide) ?_
 refine Ow.iloadN (pc' := 37) B e42_36 ?_
 refine Ow.ifT (pc' := 53) B e42_37 (by decide) ?_
 refine Ow.iloadN (pc' := 54) B e42_53 ?_
 refine Ow.ifT (pc' := 70) B e42_54 (by decide) ?_
 refine Ow.iloadN (pc' := 71) B e42_70 ?_
 exact Ow.retI (S' := []) (t := .int) B e42_71 (⟨rfl, rfl, rfl⟩)
set_option maxRecDepth 65536 in
set_option maxHeartbeats 40000000 in
theorem con_equals_22 (hw : Hw a0 Z) (G : Ow.Glo Z cz sf) (GS : GlS Z) {pa0 : Nat} {h0 : Heap} (O0 : Old Z n0 h0) :
    Ow.Con l Z EL1 n0 my43 jdk_42_method_66_code 3 (Option.some Jvm.ClassFile.FieldType.boolean) [] ({ frames := 0, cells := 0, slots := 0, locals := 0 } : Room) #[(.ref pa0), (.ref pa0)] [] h0 (fun v h S' => (v = some (.int 1) ∧ h = h0 ∧ S' = [])) := by
 refine Ow.Con.enter (Ls := #[.val (.ref pa0), .val (.ref pa0), .unset]) (plainFor_of_name pn1) O0 (hEW hw) (hSA hw) ?_
 intro p e s m below meth c B
 have z0 := Ow.old_le O0
 refine Ow.aloadN (pc' := 1) B e43_0 ?_
 refine Ow.aloadN (pc' := 2) B e43_1 ?_
 refine Ow.acmpR (pc' := 5) (same := true) B e43_2 (decide_eq_true rfl) ?_
 refine Ow.iconst (pc' := 6) (x := 1) B e43_5 ?_
 exact Ow.retI (S' := []) (t := .boolean) B e43_6 (⟨rfl, rfl, rfl⟩)
set_option maxRecDepth 65536 in
set_option maxHeartbeats 40000000 in
theorem con_str_23 (hw : Hw a0 Z) (G : Ow.Glo Z cz sf) (GS : GlS Z) {pa0 : Nat} {px0 : Int32} {px1 : Int32} {px2 : Int32} {px3 : Int32} {pk0 : ClassId} {h0 : Heap} (O0 : Old Z n0 h0) (hf0 : Arv Z h0 pa0 pk0 .char (4 : Int32) [(.int px0), (.int px1), (.int px2), (.int px3)] (.int 0)) (hn0 : n0 ≤ pa0) (hk0 : ¬ (px0 < (0 : Int32))) (hk1 : ¬ ((65535 : Int32) < px0)) (hc_px0 : nar .char px0 = px0) (hc_px1 : nar .char px1 = px1) (hc_px2 : nar .char px2 = px2) (hc_px3 : nar .char px3 = px3) :
    Ow.Con l Z EL1 n0 my36 method_3_code 2 (Option.some (Jvm.ClassFile.FieldType.object "java/lang/String")) [] ({ frames := 6, cells := 6, slots := 17, locals := 88 } : Room) #[(.int 1), (.ref pa0)] [] h0 (fun v h S' => (∃ r0 : Nat, ∃ r1 : Nat, ∃ k0 : ClassId, v = some (.ref r0) ∧ Keep h0 h [] ∧ h0.size ≤ r0 ∧ Ow.Chs Z h r0 r1 k0 [px0] ∧ S' = [])) := by
 refine Ow.Con.enter (Ls := #[.val (.int 1), .val (.ref pa0)]) (plainFor_of_name pn5) O0 (hEW hw) (hSA hw) ?_
 intro p e s m below meth c B
 have z0 := Ow.old_le O0
 have lpa0 : (pa0 : Nat) < h0.size := hf0.lt
 refine Ow.iloadN (pc' := 1) B e36_0 ?_
 refine Ow.ifT (pc' := 15) B e36_1 (by decide) ?_
 refine Ow.iloadN (pc' := 16) B e36_15 ?_
 refine Ow.iconst (pc' := 17) (x := 1) B e36_16 ?_
 refine Ow.icmpF (pc' := 20) B e36_17 (by decide) ?_
 refine Ow.newObj (pc' := 23) (k' := 1) (n' := 4) B e36_20 (w9 hw) (w10 hw) (w11 hw) ?_
 intro h2 a1 ga1 ba1 Kh2 Aa1 Da1
 have zh2 := Kh2.1
 have la1 : (a1 : Nat) < h2.size := Aa1.lt
 have f3 : Fld Z h2 a1 "java/lang/String" "value" "[B" .null := Da1 (Or.inr (w24 hw)) (ty := (.array .byte)) (by decide)
 have f4 : Fld Z h2 a1 "java/lang/String" "coder" "B" (.int 0) := Da1 (Or.inr (w25 hw)) (ty := .byte) (by decide)
 refine Ow.dup (pc' := 24) B e36_23 ?_
 refine Ow.iconst (pc' := 25) (x := 1) B e36_24 ?_
 refine Ow.newArr (pc' := 27) (k' := 2) (n' := 5) (cap := 1) B e36_25 (w1 hw) (by decide) (by decide) ?_
 intro h6 a5 ka5 ga5 ba5 Kh6 V0a5
 have zh6 := Kh6.1
 have la5 : (a5 : Nat) < h6.size := V0a5.lt
 have Va5 : Arv Z h6 a5 ka5 .char (1 : Int32) [(.int 0)] (.int 0) := V0a5.pad (pad_rep [] (.int 0) 1)
 refine Ow.dup (pc' := 28) B e36_27 ?_
 refine Ow.iconst (pc' := 29) (x := 0) B e36_28 ?_
 refine Ow.aloadN (pc' := 30) B e36_29 ?_
 refine Ow.iconst (pc' := 31) (x := 0) B e36_30 ?_
 have f7 := hf0.keep Kh2 Ow.nin0
 have f8 := f7.keep Kh6 Ow.nin0
 refine Ow.caload (pc' := 32) B e36_31 f8 ⟨by decide, by decide⟩ rfl ?_
 refine Ow.castore (pc' := 33) (i := 0) B e36_32 Va5 ⟨by decide, by decide⟩ ?_
 intro h9 Kh9 V0h9
 have zh9 := Kh9.1
 have V10 : Arv Z h9 a5 ka5 .char (1 : Int32) [(.int px0)] (.int 0) := (by have e0 := V0h9; rw [show nar .char px0 = px0 from hc_px0] at e0; exact e0)
 have f11 := Aa1.keep Kh6
 have f12 := f11.keep Kh9
 have f13 := f3.keep Kh6 Ow.nin0
 have f14 := f13.keep Kh9 (Ow.ninS (by omega) Ow.nin0)
 have f15 := f4.keep Kh6 Ow.nin0
 have f16 := f15.keep Kh9 (Ow.ninS (by omega) Ow.nin0)
 refine Ow.Go.old (fun o17 => ?_)
 refine Ow.callInit (pc' := 36) (W := 1) (k' := 6) (n' := 17) (argsL := [(.ref a5)]) (rest := [(.ref a1)]) B e36_33 (w12 hw) (w13 hw) (w11 hw) (w14 hw) (gIni hw G GS (cs := [px0]) o17 V10 f12 f14 f16 (by omega) (by omega) (Ow.allI ⟨hk0, hk1⟩ Ow.allI0) (by simp) (by simp)) pd25 ?_
 intro vq18 h19 S20 q18 zh19
 obtain ⟨t21, k22, rfl, Kh19, f23, rfl⟩ := q18
 have lt21 : (t21 : Nat) < h19.size := f23.ltt
 refine Ow.Go.nr (S' := [a5, a1]) (st' := [(.ref a1)]) ?_
 exact Ow.retA (S' := []) (t := (.object "java/lang/String")) B e36_36 (⟨a1, t21, k22, rfl, (((((Keep.refl _ []).trans Kh2 (fun _ q => nomatch q)).trans Kh6 (fun _ q => nomatch q)).trans Kh9 (allS (Or.inr (by omega)) all0)).trans Kh19 (allS (Or.inr (by omega)) all0)), (by omega), f23, rfl⟩)
set_option maxRecDepth 65536 in
set_option maxHeartbeats 40000000 in
theorem con_endBeforeSpaces_24 (hw : Hw a0 Z) (G : Ow.Glo Z cz sf) (GS : GlS Z) {pa0 : Nat} {pa1 : Nat} {pa2 : Nat} {px0 : Int32} {pk0 : ClassId} {h0 : Heap} (O0 : Old Z n0 h0) (hf0 : Fld Z h0 pa0 "com/example/elsewhere/elsewhere/Field$Subfield" "value" "Ljava/lang/String;" (.ref pa1)) (hf1 : Ow.Chs Z h0 pa1 pa2 pk0 [px0]) (hn0 : n0 ≤ pa0) (hn1 : n0 ≤ pa1) (hc_px0 : nar .char px0 = px0) :
    Ow.Con l Z EL1 n0 my39 prog_11_method_5_code 4 (Option.some Jvm.ClassFile.FieldType.int) [] ({ frames := 5, cells := 0, slots := 0, locals := 66 } : Room) #[(.ref pa0), (.int 0), (.int 1)] [] h0 (fun v h S' => (v = some (.int 0) ∧ h = h0 ∧ px0 = (32 : Int32) ∧ S' = []) ∨ (v = some (.int 1) ∧ h = h0 ∧ ¬ (px0 = (32 : Int32)) ∧ S' = [])) := by
 refine Ow.Con.enter (Ls := #[.val (.ref pa0), .val (.int 0), .val (.int 1), .unset]) (plainFor_of_name pn6) O0 (hEW hw) (hSA hw) ?_
 intro p e s m below meth c B
 have z0 := Ow.old_le O0
 have lpa0 : (pa0 : Nat) < h0.size := hf0.lt
 have lpa1 : (pa1 : Nat) < h0.size := hf1.lt
 have lpa2 : (pa2 : Nat) < h0.size := hf1.ltt
 refine Ow.iloadN (pc' := 1) B e40_0 ?_
 refine Ow.istoreN (pc' := 2) (Ls' := #[.val (.ref pa0), .val (.int 0), .val (.int 1), .val (.int 1)]) B e40_1 ?_
 refine Ow.iloadN (pc' := 3) B e40_2 ?_
 refine Ow.iloadN (pc' := 4) B e40_3 ?_
 refine Ow.icmpF (pc' := 7) B e40_4 (by decide) ?_
 refine Ow.aloadN (pc' := 8) B e40_7 ?_
 refine Ow.getfield (pc' := 11) B e40_8 (w44 hw) Via.refl hf0 ?_
 refine Ow.iloadN (pc' := 12) B e40_11 ?_
 refine Ow.iconst (pc' := 13) (x := 1) B e40_12 ?_
 refine Ow.isub (pc' := 14) (z := 0) B e40_13 ?_
 refine Ow.Go.old (fun o1 => ?_)
 refine Ow.callVirtual (pc' := 17) (W := 0) (k' := 0) (n' := 0) (argsL := [(.int 0)]) (rest := []) (K := "java/lang/String") B e40_14 (w89 hw) (w90 hw) (w92 hw) (w92 hw) (w91 hw) (w11 hw) (w93 hw) (hf1).1 (gCha hw G GS (j := 0) (x := px0) o1 hf1 rfl (by simp)) pd24 ?_
 intro vq2 h3 S4 q2 zh3
 obtain ⟨rfl, rfl, rfl⟩ := q2
 refine Ow.Go.nr (S' := []) (st' := [(.int px0)]) ?_
 refine Ow.bipush (pc' := 19) (x := 32) B e40_17 ?_
 by_cases c5 : px0 = (32 : Int32)
 ·refine Ow.icmpF (pc' := 22) B e40_19 (teq c5).2 ?_
  refine Ow.iinc (pc' := 25) (y := 0) (Ls' := #[.val (.ref pa0), .val (.int 0), .val (.int 1), .val (.int 0)]) B e40_22 ?_
  refine Ow.goto (pc' := 2) B e40_25 ?_
  refine Ow.iloadN (pc' := 3) B e40_2 ?_
  refine Ow.iloadN (pc' := 4) B e40_3 ?_
  refine Ow.icmpT (pc' := 28) B e40_4 (by decide) ?_
  refine Ow.iloadN (pc' := 29) B e40_28 ?_
  exact Ow.retI (S' := []) (t := .int) B e40_29 (Or.inl (⟨rfl, rfl, c5, rfl⟩))
 ·refine Ow.icmpT (pc' := 28) B e40_19 (feq c5).2 ?_
  refine Ow.iloadN (pc' := 29) B e40_28 ?_
  exact Ow.retI (S' := []) (t := .int) B e40_29 (Or.inr (⟨rfl, rfl, c5, rfl⟩))
set_option maxRecDepth 65536 in
set_option maxHeartbeats 40000000 in
theorem con_length_25 (hw : Hw a0 Z) (G : Ow.Glo Z cz sf) (GS : GlS Z) {pa0 : Nat} {pa1 : Nat} {pk0 : ClassId} {h0 : Heap} (O0 : Old Z n0 h0) (hf0 : Exa Z h0 pa0 "java/lang/String") (hf1 : Fld Z h0 pa0 "java/lang/String" "coder" "B" (.int 0)) (hf2 : Fld Z h0 pa0 "java/lang/String" "value" "[B" (.ref pa1)) (hf3 : Arv Z h0 pa1 pk0 .byte (3 : Int32) [(.int 59), (.int 44), (.int 58)] (.int 0)) :
    Ow.Con l Z EL1 n0 my11 jdk_42_method_54_code 1 (Option.some Jvm.ClassFile.FieldType.int) [] ({ frames := 1, cells := 0, slots := 0, locals := 13 } : Room) #[(.ref pa0)] [] h0 (fun v h S' => (v = some (.int 3) ∧ h = h0 ∧ S' = [])) := by
 refine Ow.Con.enter (Ls := #[.val (.ref pa0)]) (plainFor_of_name pn1) O0 (hEW hw) (hSA hw) ?_
 intro p e s m below meth c B
 have z0 := Ow.old_le O0
 have lpa0 : (pa0 : Nat) < h0.size := hf0.lt
 have lpa1 : (pa1 : Nat) < h0.size := hf3.lt
 refine Ow.aloadN (pc' := 1) B e10_0 ?_
 refine Ow.getfield (pc' := 4) B e10_1 (w28 hw) Via.refl hf2 ?_
 refine Ow.arrlen (pc' := 5) B e10_4 hf3 ?_
 refine Ow.aloadN (pc' := 6) B e10_5 ?_
 refine Ow.Go.old (fun o1 => ?_)
 refine Ow.callVirtual (pc' := 9) (W := 1) (k' := 0) (n' := 0) (argsL := []) (rest := [(.int 3)]) (K := "java/lang/String") B e10_6 (w56 hw) (w57 hw) (w59 hw) (w59 hw) (w58 hw) (w11 hw) (w60 hw) hf0 (con_coder_1 hw G GS (pa0 := pa0) o1 hf1) pd8 ?_
 intro vq2 h3 S4 q2 zh3
 obtain ⟨rfl, rfl, rfl⟩ := q2
 refine Ow.Go.nr (S' := []) (st' := [(.int 0), (.int 3)]) ?_
 refine Ow.ishr (pc' := 10) (z := 3) B e10_9 ?_
 exact Ow.retI (S' := []) (t := .int) B e10_10 (⟨rfl, rfl, rfl⟩)
set_option maxRecDepth 65536 in
set_option maxHeartbeats 40000000 in
theorem con_canEncode_26 (hw : Hw a0 Z) (G : Ow.Glo Z cz sf) (GS : GlS Z) {px0 : Int32} {h0 : Heap} (O0 : Old Z n0 h0) (hk0 : ¬ (px0 < (0 : Int32))) (hc_px0 : nar .char px0 = px0) :
    Ow.Con l Z EL1 n0 my44 jdk_43_method_4_code 1 (Option.some Jvm.ClassFile.FieldType.boolean) [] ({ frames := 0, cells := 0, slots := 0, locals := 0 } : Room) #[(.int px0)] [] h0 (fun v h S' => (v = some (.int 0) ∧ h = h0 ∧ (255 : Int32) < px0 ∧ S' = []) ∨ (v = some (.int 1) ∧ h = h0 ∧ ¬ ((255 : Int32) < px0) ∧ S' = [])) := by
 refine Ow.Con.enter (Ls := #[.val (.int px0)]) (plainFor_of_name pn2) O0 (hEW hw) (hSA hw) ?_
 intro p e s m below meth c B
 have z0 := Ow.old_le O0
 refine Ow.iloadN (pc' := 1) B e47_0 ?_
 refine Ow.ifF (pc' := 4) B e47_1 (flt (hk0)).1 ?_
 refine Ow.iloadN (pc' := 5) B e47_4 ?_
 refine Ow.sipush (pc' := 8) (x := 255) B e47_5 ?_
 by_cases c1 : (255 : Int32) < px0
 ·refine Ow.icmpT (pc' := 15) B e47_8 (tlt c1).2.2.1 ?_
  refine Ow.iconst (pc' := 16) (x := 0) B e47_15 ?_
  exact Ow.retI (S' := []) (t := .boolean) B e47_16 (Or.inl (⟨rfl, rfl, c1, rfl⟩))
 ·refine Ow.icmpF (pc' := 11) B e47_8 (flt c1).2.2.1 ?_
  refine Ow.iconst (pc' := 12) (x := 1) B e47_11 ?_
  refine Ow.goto (pc' := 16) B e47_12 ?_
  exact Ow.retI (S' := []) (t := .boolean) B e47_16 (Or.inr (⟨rfl, rfl, c1, rfl⟩))
set_option maxRecDepth 65536 in
set_option maxHeartbeats 40000000 in
theorem con_max_27 (hw : Hw a0 Z) (G : Ow.Glo Z cz sf) (GS : GlS Z) {h0 : Heap} (O0 : Old Z n0 h0) :
    Ow.Con l Z EL1 n0 my45 jdk_29_method_65_code 2 (Option.some Jvm.ClassFile.FieldType.int) [] ({ frames := 0, cells := 0, slots := 0, locals := 0 } : Room) #[(.int 0), (.int 0)] [] h0 (fun v h S' => (v = some (.int 0) ∧ h = h0 ∧ S' = [])) := by
 refine Ow.Con.enter (Ls := #[.val (.int 0), .val (.int 0)]) (by decide +kernel) O0 (hEW hw) (hSA hw) ?_
 intro p e s m below meth c B
 have z0 := Ow.old_le O0
 refine Ow.iloadN (pc' := 1) B e48_0 ?_
 refine Ow.iloadN (pc' := 2) B e48_1 ?_
 refine Ow.icmpF (pc' := 5) B e48_2 (by decide) ?_
 refine Ow.iloadN (pc' := 6) B e48_5 ?_
 refine Ow.goto (pc' := 10) B e48_6 ?_
 exact Ow.retI (S' := []) (t := .int) B e48_10 (⟨rfl, rfl, rfl⟩)
set_option maxRecDepth 65536 in
set_option maxHeartbeats 40000000 in
theorem con_min_28 (hw : Hw a0 Z) (G : Ow.Glo Z cz sf) (GS : GlS Z) {h0 : Heap} (O0 : Old Z n0 h0) :
    Ow.Con l Z EL1 n0 my20 jdk_29_method_69_code 2 (Option.some Jvm.ClassFile.FieldType.int) [] ({ frames := 0, cells := 0, slots := 0, locals := 0 } : Room) #[(.int 3), (.int 3)] [] h0 (fun v h S' => (v = some (.int 3) ∧ h = h0 ∧ S' = [])) := by
 refine Ow.Con.enter (Ls := #[.val (.int 3), .val (.int 3)]) (by decide +kernel) O0 (hEW hw) (hSA hw) ?_
 intro p e s m below meth c B
 have z0 := Ow.old_le O0
 refine Ow.iloadN (pc' := 1) B e20_0 ?_
 refine Ow.iloadN (pc' := 2) B e20_1 ?_
 refine Ow.icmpF (pc' := 5) B e20_2 (by decide) ?_
 refine Ow.iloadN (pc' := 6) B e20_5 ?_
 refine Ow.goto (pc' := 10) B e20_6 ?_
 exact Ow.retI (S' := []) (t := .int) B e20_10 (⟨rfl, rfl, rfl⟩)
set_option maxRecDepth 65536 in
set_option maxHeartbeats 40000000 in
theorem con_indexOfChar_29 (hw : Hw a0 Z) (G : Ow.Glo Z cz sf) (GS : GlS Z) {pa0 : Nat} {px0 : Int32} {pk0 : ClassId} {h0 : Heap} (O0 : Old Z n0 h0) (hf0 : Arv Z h0 pa0 pk0 .byte (3 : Int32) [(.int 59), (.int 44), (.int 58)] (.int 0)) (hk0 : ¬ (px0 < (0 : Int32))) (hk1 : ¬ ((255 : Int32) < px0)) (hc_px0 : nar .char px0 = px0) :
    Ow.Con l Z EL1 n0 my46 jdk_43_method_23_code 6 (Option.some Jvm.ClassFile.FieldType.int) [] ({ frames := 0, cells := 0, slots := 0, locals := 0 } : Room) #[(.ref pa0), (.int px0), (.int 0), (.int 3)] [] h0 (fun v h S' => (∃ i0 : Int32, v = some (.int i0) ∧ h = h0 ∧ sepP px0 ∧ ¬ (i0 < (0 : Int32)) ∧ S' = []) ∨ (∃ i0 : Int32, v = some (.int i0) ∧ h = h0 ∧ ¬ (sepP px0) ∧ i0 < (0 : Int32) ∧ S' = [])) := by
 refine Ow.Con.enter (Ls := #[.val (.ref pa0), .val (.int px0), .val (.int 0), .val (.int 3), .unset, .unset]) (plainFor_of_name pn2) O0 (hEW hw) (hSA hw) ?_
 intro p e s m below meth c B
 have z0 := Ow.old_le O0
 have lpa0 : (pa0 : Nat) < h0.size := hf0.lt
 have i0 := own_i0 (hk0)
 have i1 := own_i255 (hk1)
 have i8 := own_i8 (hk0) (hk1)
 refine Ow.iloadN (pc' := 1) B e49_0 ?_
 refine Ow.i2b (pc' := 2) (z := px0.toInt8.toInt32) B e49_1 ?_
 refine Ow.istore (pc' := 4) (Ls' := #[.val (.ref pa0), .val (.int px0), .val (.int 0), .val (.int 3), .val (.int px0.toInt8.toInt32), .unset]) B e49_2 ?_
 refine Ow.iloadN (pc' := 5) B e49_4 ?_
 refine Ow.istore (pc' := 7) (Ls' := #[.val (.ref pa0), .val (.int px0), .val (.int 0), .val (.int 3), .val (.int px0.toInt8.toInt32), .val (.int 0)]) B e49_5 ?_
 refine Ow.iload (pc' := 9) B e49_7 ?_
 refine Ow.iloadN (pc' := 10) B e49_9 ?_
 refine Ow.icmpF (pc' := 13) B e49_10 (by decide) ?_
 refine Ow.aloadN (pc' := 14) B e49_13 ?_
 refine Ow.iload (pc' := 16) B e49_14 ?_
 refine Ow.baload (pc' := 17) B e49_16 hf0 ⟨by decide, by decide⟩ rfl ?_
 refine Ow.iload (pc' := 19) B e49_17 ?_
 by_cases c1 : (59 : Int32) = px0.toInt8.toInt32
 ·have c1i := c1
  simp only [Int32.lt_iff_toInt_lt, ← Int32.toInt_inj, Int32.reduceToInt] at c1i
  refine Ow.icmpF (pc' := 22) B e49_19 (teq c1).2 ?_
  refine Ow.iload (pc' := 24) B e49_22 ?_
  exact Ow.retI (S' := []) (t := .int) B e49_24 (Or.inl (⟨(0 : Int32), rfl, rfl, (by unfold sepP; simp only [← Int32.toInt_inj, Int32.reduceToInt]; omega), (by decide), rfl⟩))
 ·have c1i := c1
  simp only [Int32.lt_iff_toInt_lt, ← Int32.toInt_inj, Int32.reduceToInt] at c1i
  refine Ow.icmpT (pc' := 25) B e49_19 (feq c1).2 ?_
  refine Ow.iinc (pc' := 28) (y := 1) (Ls' := #[.val (.ref pa0), .val (.int px0), .val (.int 0), .val (.int 3), .val (.int px0.toInt8.toInt32), .val (.int 1)]) B e49_25 ?_
  refine Ow.goto (pc' := 7) B e49_28 ?_
  refine Ow.iload (pc' := 9) B e49_7 ?_
  refine Ow.iloadN (pc' := 10) B e49_9 ?_
  refine Ow.icmpF (pc' := 13) B e49_10 (by decide) ?_
  refine Ow.aloadN (pc' := 14) B e49_13 ?_
  refine Ow.iload (pc' := 16) B e49_14 ?_
  refine Ow.baload (pc' := 17) B e49_16 hf0 ⟨by decide, by decide⟩ rfl ?_
  refine Ow.iload (pc' := 19) B e49_17 ?_
  by_cases c2 : (44 : Int32) = px0.toInt8.toInt32
  ·have c2i := c2
   simp only [Int32.lt_iff_toInt_lt, ← Int32.toInt_inj, Int32.reduceToInt] at c2i
   refine Ow.icmpF (pc' := 22) B e49_19 (teq c2).2 ?_
   refine Ow.iload (pc' := 24) B e49_22 ?_
   exact Ow.retI (S' := []) (t := .int) B e49_24 (Or.inl (⟨(1 : Int32), rfl, rfl, (by unfold sepP; simp only [← Int32.toInt_inj, Int32.reduceToInt]; omega), (by decide), rfl⟩))
  ·have c2i := c2
   simp only [Int32.lt_iff_toInt_lt, ← Int32.toInt_inj, Int32.reduceToInt] at c2i
   refine Ow.icmpT (pc' := 25) B e49_19 (feq c2).2 ?_
   refine Ow.iinc (pc' := 28) (y := 2) (Ls' := #[.val (.ref pa0), .val (.int px0), .val (.int 0), .val (.int 3), .val (.int px0.toInt8.toInt32), .val (.int 2)]) B e49_25 ?_
   refine Ow.goto (pc' := 7) B e49_28 ?_
   refine Ow.iload (pc' := 9) B e49_7 ?_
   refine Ow.iloadN (pc' := 10) B e49_9 ?_
   refine Ow.icmpF (pc' := 13) B e49_10 (by decide) ?_
   refine Ow.aloadN (pc' := 14) B e49_13 ?_
   refine Ow.iload (pc' := 16) B e49_14 ?_
   refine Ow.baload (pc' := 17) B e49_16 hf0 ⟨by decide, by decide⟩ rfl ?_
   refine Ow.iload (pc' := 19) B e49_17 ?_
   by_cases c3 : (58 : Int32) = px0.toInt8.toInt32
   ·have c3i := c3
    simp only [Int32.lt_iff_toInt_lt, ← Int32.toInt_inj, Int32.reduceToInt] at c3i
    refine Ow.icmpF (pc' := 22) B e49_19 (teq c3).2 ?_
    refine Ow.iload (pc' := 24) B e49_22 ?_
    exact Ow.retI (S' := []) (t := .int) B e49_24 (Or.inl (⟨(2 : Int32), rfl, rfl, (by unfold sepP; simp only [← Int32.toInt_inj, Int32.reduceToInt]; omega), (by decide), rfl⟩))
   ·have c3i := c3
    simp only [Int32.lt_iff_toInt_lt, ← Int32.toInt_inj, Int32.reduceToInt] at c3i
    refine Ow.icmpT (pc' := 25) B e49_19 (feq c3).2 ?_
    refine Ow.iinc (pc' := 28) (y := 3) (Ls' := #[.val (.ref pa0), .val (.int px0), .val (.int 0), .val (.int 3), .val (.int px0.toInt8.toInt32), .val (.int 3)]) B e49_25 ?_
    refine Ow.goto (pc' := 7) B e49_28 ?_
    refine Ow.iload (pc' := 9) B e49_7 ?_
    refine Ow.iloadN (pc' := 10) B e49_9 ?_
    refine Ow.icmpT (pc' := 31) B e49_10 (by decide) ?_
    refine Ow.iconst (pc' := 32) (x := (-1 : Int32)) B e49_31 ?_
    exact Ow.retI (S' := []) (t := .int) B e49_32 (Or.inr (⟨(-1 : Int32), rfl, rfl, (by unfold sepP; simp only [← Int32.toInt_inj, Int32.reduceToInt]; omega), (by decide), rfl⟩))
set_option maxRecDepth 65536 in
set_option maxHeartbeats 40000000 in
theorem con_indexOf_30 (hw : Hw a0 Z) (G : Ow.Glo Z cz sf) (GS : GlS Z) {pa0 : Nat} {px0 : Int32} {pk0 : ClassId} {h0 : Heap} (O0 : Old Z n0 h0) (hf0 : Arv Z h0 pa0 pk0 .byte (3 : Int32) [(.int 59), (.int 44), (.int 58)] (.int 0)) (hk0 : ¬ (px0 < (0 : Int32))) (hc_px0 : nar .char px0 = px0) :
    Ow.Con l Z EL1 n0 my47 jdk_43_method_22_code 4 (Option.some Jvm.ClassFile.FieldType.int) [] ({ frames := 1, cells := 0, slots := 0, locals := 17 } : Room) #[(.ref pa0), (.int px0), (.int 0), (.int 3)] [] h0 (fun v h S' => (∃ i0 : Int32, v = some (.int i0) ∧ h = h0 ∧ ¬ (sepP px0) ∧ i0 < (0 : Int32) ∧ S' = []) ∨ (∃ i0 : Int32, v = some (.int i0) ∧ h = h0 ∧ sepP px0 ∧ ¬ (i0 < (0 : Int32)) ∧ S' = [])) := by
 refine Ow.Con.enter (Ls := #[.val (.ref pa0), .val (.int px0), .val (.int 0), .val (.int 3)]) (plainFor_of_name pn2) O0 (hEW hw) (hSA hw) ?_
 intro p e s m below meth c B
 have z0 := Ow.old_le O0
 have lpa0 : (pa0 : Nat) < h0.size := hf0.lt
 refine Ow.iloadN (pc' := 1) B e46_0 ?_
 refine Ow.Go.old (fun o1 => ?_)
 refine Ow.callStatic (pc' := 4) (W := 0) (k' := 0) (n' := 0) (argsL := [(.int px0)]) (rest := []) B e46_1 (w126 hw) (w127 hw) (w101 hw) (w128 hw) (con_canEncode_26 hw G GS (px0 := px0) o1 (hk0) hc_px0) pd32 ?_
 intro vq2 h3 S4 q2 zh3
 rcases q2 with q2 | q2
 ·obtain ⟨rfl, rfl, c5, rfl⟩ := q2
  refine Ow.Go.nr (S' := []) (st' := [(.int 0)]) ?_
  refine Ow.ifF (pc' := 7) B e46_4 (by decide) ?_
  refine Ow.iconst (pc' := 8) (x := (-1 : Int32)) B e46_7 ?_
  exact Ow.retI (S' := []) (t := .int) B e46_8 (Or.inl (⟨(-1 : Int32), rfl, rfl, (own_nosep c5), (by decide), rfl⟩))
 ·obtain ⟨rfl, rfl, c6, rfl⟩ := q2
  refine Ow.Go.nr (S' := []) (st' := [(.int 1)]) ?_
  refine Ow.ifT (pc' := 9) B e46_4 (by decide) ?_
  refine Ow.iloadN (pc' := 10) B e46_9 ?_
  refine Ow.iconst (pc' := 11) (x := 0) B e46_10 ?_
  refine Ow.Go.old (fun o7 => ?_)
  refine Ow.callStatic (pc' := 14) (W := 0) (k' := 0) (n' := 0) (argsL := [(.int 0), (.int 0)]) (rest := []) B e46_11 (w129 hw) (w130 hw) (w131 hw) (w132 hw) (con_max_27 hw G GS o7) pd14 ?_
  intro vq8 h9 S10 q8 zh9
  obtain ⟨rfl, rfl, rfl⟩ := q8
  refine Ow.Go.nr (S' := []) (st' := [(.int 0)]) ?_
  refine Ow.istoreN (pc' := 15) (Ls' := #[.val (.ref pa0), .val (.int px0), .val (.int 0), .val (.int 3)]) B e46_14 ?_
  refine Ow.iloadN (pc' := 16) B e46_15 ?_
  refine Ow.aloadN (pc' := 17) B e46_16 ?_
  refine Ow.arrlen (pc' := 18) B e46_17 hf0 ?_
  refine Ow.Go.old (fun o11 => ?_)
  refine Ow.callStatic (pc' := 21) (W := 0) (k' := 0) (n' := 0) (argsL := [(.int 3), (.int 3)]) (rest := []) B e46_18 (w133 hw) (w134 hw) (w131 hw) (w135 hw) (con_min_28 hw G GS o11) pd14 ?_
  intro vq12 h13 S14 q12 zh13
  obtain ⟨rfl, rfl, rfl⟩ := q12
  refine Ow.Go.nr (S' := []) (st' := [(.int 3)]) ?_
  refine Ow.istoreN (pc' := 22) (Ls' := #[.val (.ref pa0), .val (.int px0), .val (.int 0), .val (.int 3)]) B e46_21 ?_
  refine Ow.iloadN (pc' := 23) B e46_22 ?_
  refine Ow.iloadN (pc' := 24) B e46_23 ?_
  refine Ow.icmpT (pc' := 29) B e46_24 (by decide) ?_
  refine Ow.aloadN (pc' := 30) B e46_29 ?_
  refine Ow.iloadN (pc' := 31) B e46_30 ?_
  refine Ow.iloadN (pc' := 32) B e46_31 ?_
  refine Ow.iloadN (pc' := 33) B e46_32 ?_
  refine Ow.Go.old (fun o15 => ?_)
  refine Ow.callStatic (pc' := 36) (W := 0) (k' := 0) (n' := 0) (argsL := [(.ref pa0), (.int px0), (.int 0), (.int 3)]) (rest := []) B e46_33 (w136 hw) (w137 hw) (w101 hw) (w138 hw) (con_indexOfChar_29 hw G GS (pa0 := pa0) (px0 := px0) (pk0 := pk0) o15 hf0 (hk0) (c6) hc_px0) pd33 ?_
  intro vq16 h17 S18 q16 zh17
  rcases q16 with q16 | q16
  ·obtain ⟨y19, rfl, rfl, c20, c21, rfl⟩ := q16
   refine Ow.Go.nr (S' := []) (st' := [(.int y19)]) ?_
   exact Ow.retI (S' := []) (t := .int) B e46_36 (Or.inr (⟨y19, rfl, rfl, c20, c21, rfl⟩))
  ·obtain ⟨y22, rfl, rfl, c23, c24, rfl⟩ := q16
   refine Ow.Go.nr (S' := []) (st' := [(.int y22)]) ?_
   exact Ow.retI (S' := []) (t := .int) B e46_36 (Or.inl (⟨y22, rfl, rfl, c23, c24, rfl⟩))
set_option maxRecDepth 65536 in
set_option maxHeartbeats 40000000 in
theorem con_indexOf_31 (hw : Hw a0 Z) (G : Ow.Glo Z cz sf) (GS : GlS Z) {pa0 : Nat} {pa1 : Nat} {px0 : Int32} {pk0 : ClassId} {h0 : Heap} (O0 : Old Z n0 h0) (hf0 : Exa Z h0 pa0 "java/lang/String") (hf1 : Fld Z h0 pa0 "java/lang/String" "coder" "B" (.int 0)) (hf2 : Fld Z h0 pa0 "java/lang/String" "value" "[B" (.ref pa1)) (hf3 : Arv Z h0 pa1 pk0 .byte (3 : Int32) [(.int 59), (.int 44), (.int 58)] (.int 0)) (hk0 : ¬ (px0 < (0 : Int32))) (hc_px0 : nar .char px0 = px0) :
    Ow.Con l Z EL1 n0 my48 jdk_42_method_80_code 3 (Option.some Jvm.ClassFile.FieldType.int) [] ({ frames := 2, cells := 0, slots := 0, locals := 32 } : Room) #[(.ref pa0), (.int px0), (.int 0)] [] h0 (fun v h S' => (∃ i0 : Int32, v = some (.int i0) ∧ h = h0 ∧ ¬ (sepP px0) ∧ i0 < (0 : Int32) ∧ S' = []) ∨ (∃ i0 : Int32, v = some (.int i0) ∧ h = h0 ∧ sepP px0 ∧ ¬ (i0 < (0 : Int32)) ∧ S' = [])) := by
 refine Ow.Con.enter (Ls := #[.val (.ref pa0), .val (.int px0), .val (.int 0)]) (plainFor_of_name pn1) O0 (hEW hw) (hSA hw) ?_
 intro p e s m below meth c B
 have z0 := Ow.old_le O0
 have lpa0 : (pa0 : Nat) < h0.size := hf0.lt
 have lpa1 : (pa1 : Nat) < h0.size := hf3.lt
 refine Ow.aloadN (pc' := 1) B e45_0 ?_
 refine Ow.Go.old (fun o1 => ?_)
 refine Ow.callVirtual (pc' := 4) (W := 0) (k' := 0) (n' := 0) (argsL := []) (rest := []) (K := "java/lang/String") B e45_1 (w94 hw) (w95 hw) (w97 hw) (w97 hw) (w96 hw) (w11 hw) (w98 hw) hf0 (con_isLatin1_5 hw G GS (pa0 := pa0) o1 hf1) pd13 ?_
 intro vq2 h3 S4 q2 zh3
 obtain ⟨rfl, rfl, rfl⟩ := q2
 refine Ow.Go.nr (S' := []) (st' := [(.int 1)]) ?_
 refine Ow.ifF (pc' := 7) B e45_4 (by decide) ?_
 refine Ow.aloadN (pc' := 8) B e45_7 ?_
 refine Ow.getfield (pc' := 11) B e45_8 (w28 hw) Via.refl hf2 ?_
 refine Ow.iloadN (pc' := 12) B e45_11 ?_
 refine Ow.iloadN (pc' := 13) B e45_12 ?_
 refine Ow.aloadN (pc' := 14) B e45_13 ?_
 refine Ow.Go.old (fun o5 => ?_)
 refine Ow.callVirtual (pc' := 17) (W := 3) (k' := 0) (n' := 0) (argsL := []) (rest := [(.int 0), (.int px0), (.ref pa1)]) (K := "java/lang/String") B e45_14 (w122 hw) (w52 hw) (w54 hw) (w54 hw) (w53 hw) (w11 hw) (w55 hw) hf0 (con_length_25 hw G GS (pa0 := pa0) (pa1 := pa1) (pk0 := pk0) o5 hf0 hf1 hf2 hf3) pd21 ?_
 intro vq6 h7 S8 q6 zh7
 obtain ⟨rfl, rfl, rfl⟩ := q6
 refine Ow.Go.nr (S' := []) (st' := [(.int 3), (.int 0), (.int px0), (.ref pa1)]) ?_
 refine Ow.Go.old (fun o9 => ?_)
 refine Ow.callStatic (pc' := 20) (W := 0) (k' := 0) (n' := 0) (argsL := [(.ref pa1), (.int px0), (.int 0), (.int 3)]) (rest := []) B e45_17 (w123 hw) (w124 hw) (w101 hw) (w125 hw) (con_indexOf_30 hw G GS (pa0 := pa1) (px0 := px0) (pk0 := pk0) o9 hf3 (hk0) hc_px0) pd33 ?_
 intro vq10 h11 S12 q10 zh11
 rcases q10 with q10 | q10
 ·obtain ⟨y13, rfl, rfl, c14, c15, rfl⟩ := q10
  refine Ow.Go.nr (S' := []) (st' := [(.int y13)]) ?_
  refine Ow.goto (pc' := 36) B e45_20 ?_
  exact Ow.retI (S' := []) (t := .int) B e45_36 (Or.inl (⟨y13, rfl, rfl, c14, c15, rfl⟩))
 ·obtain ⟨y16, rfl, rfl, c17, c18, rfl⟩ := q10
  refine Ow.Go.nr (S' := []) (st' := [(.int y16)]) ?_
  refine Ow.goto (pc' := 36) B e45_20 ?_
  exact Ow.retI (S' := []) (t := .int) B e45_36 (Or.inr (⟨y16, rfl, rfl, c17, c18, rfl⟩))
set_option maxRecDepth 65536 in
set_option maxHeartbeats 40000000 in
theorem con_indexOf_32 (hw : Hw a0 Z) (G : Ow.Glo Z cz sf) (GS : GlS Z) {pa0 : Nat} {pa1 : Nat} {px0 : Int32} {pk0 : ClassId} {h0 : Heap} (O0 : Old Z n0 h0) (hf0 : Exa Z h0 pa0 "java/lang/String") (hf1 : Fld Z h0 pa0 "java/lang/String" "coder" "B" (.int 0)) (hf2 : Fld Z h0 pa0 "java/lang/String" "value" "[B" (.ref pa1)) (hf3 : Arv Z h0 pa1 pk0 .byte (3 : Int32) [(.int 59), (.int 44), (.int 58)] (.int 0)) (hk0 : ¬ (px0 < (0 : Int32))) (hc_px0 : nar .char px0 = px0) :
    Ow.Con l Z EL1 n0 my49 jdk_42_method_79_code 2 (Option.some Jvm.ClassFile.FieldType.int) [] ({ frames := 3, cells := 0, slots := 0, locals := 46 } : Room) #[(.ref pa0), (.int px0)] [] h0 (fun v h S' => (∃ i0 : Int32, v = some (.int i0) ∧ h = h0 ∧ ¬ (sepP px0) ∧ i0 < (0 : Int32) ∧ S' = []) ∨ (∃ i0 : Int32, v = some (.int i0) ∧ h = h0 ∧ sepP px0 ∧ ¬ (i0 < (0 : Int32)) ∧ S' = [])) := by
 refine Ow.Con.enter (Ls := #[.val (.ref pa0), .val (.int px0)]) (plainFor_of_name pn1) O0 (hEW hw) (hSA hw) ?_
 intro p e s m below meth c B
 have z0 := Ow.old_le O0
 have lpa0 : (pa0 : Nat) < h0.size := hf0.lt
 have lpa1 : (pa1 : Nat) < h0.size := hf3.lt
 refine Ow.aloadN (pc' := 1) B e44_0 ?_
 refine Ow.iloadN (pc' := 2) B e44_1 ?_
 refine Ow.iconst (pc' := 3) (x := 0) B e44_2 ?_
 refine Ow.Go.old (fun o1 => ?_)
 refine Ow.callVirtual (pc' := 6) (W := 0) (k' := 0) (n' := 0) (argsL := [(.int px0), (.int 0)]) (rest := []) (K := "java/lang/String") B e44_3 (w117 hw) (w118 hw) (w120 hw) (w120 hw) (w119 hw) (w11 hw) (w121 hw) hf0 (con_indexOf_31 hw G GS (pa0 := pa0) (pa1 := pa1) (px0 := px0) (pk0 := pk0) o1 hf0 hf1 hf2 hf3 (hk0) hc_px0) pd14 ?_
 intro vq2 h3 S4 q2 zh3
 rcases q2 with q2 | q2
 ·obtain ⟨y5, rfl, rfl, c6, c7, rfl⟩ := q2
  refine Ow.Go.nr (S' := []) (st' := [(.int y5)]) ?_
  exact Ow.retI (S' := []) (t := .int) B e44_6 (Or.inl (⟨y5, rfl, rfl, c6, c7, rfl⟩))
 ·obtain ⟨y8, rfl, rfl, c9, c10, rfl⟩ := q2
  refine Ow.Go.nr (S' := []) (st' := [(.int y8)]) ?_
  exact Ow.retI (S' := []) (t := .int) B e44_6 (Or.inr (⟨y8, rfl, rfl, c9, c10, rfl⟩))
set_option maxRecDepth 65536 in
set_option maxHeartbeats 40000000 in
theorem con_endBeforeSeparator_33 (hw : Hw a0 Z) (G : Ow.Glo Z cz sf) (GS : GlS Z) {pa0 : Nat} {pa1 : Nat} {pa2 : Nat} {px0 : Int32} {pk0 : ClassId} {h0 : Heap} (O0 : Old Z n0 h0) (hf0 : Exa Z h0 pa0 "com/example/elsewhere/elsewhere/Field$Subfield") (hf1 : Fld Z h0 pa0 "com/example/elsewhere/elsewhere/Field$Subfield" "value" "Ljava/lang/String;" (.ref pa1)) (hf2 : Ow.Chs Z h0 pa1 pa2 pk0 [px0]) (hn0 : n0 ≤ pa0) (hn1 : n0 ≤ pa1) (hk0 : ¬ (px0 < (0 : Int32))) (hc_px0 : nar .char px0 = px0) :
    Ow.Con l Z EL1 n0 my40 prog_11_method_4_code 3 (Option.some Jvm.ClassFile.FieldType.int) [] ({ frames := 5, cells := 2, slots := 16, locals := 67 } : Room) #[(.ref pa0), (.int 0), (.int 1)] [] h0 (fun v h S' => (v = some (.int 1) ∧ Keep h0 h [] ∧ ¬ (sepP px0) ∧ S' = []) ∨ (v = some (.int 0) ∧ Keep h0 h [] ∧ sepP px0 ∧ S' = [])) := by
 refine Ow.Con.enter (Ls := #[.val (.ref pa0), .val (.int 0), .val (.int 1)]) (plainFor_of_name pn6) O0 (hEW hw) (hSA hw) ?_
 intro p e s m below meth c B
 have z0 := Ow.old_le O0
 have lpa0 : (pa0 : Nat) < h0.size := hf0.lt
 have lpa1 : (pa1 : Nat) < h0.size := hf2.lt
 have lpa2 : (pa2 : Nat) < h0.size := hf2.ltt
 refine Ow.iloadN (pc' := 1) B e41_0 ?_
 refine Ow.iloadN (pc' := 2) B e41_1 ?_
 refine Ow.icmpF (pc' := 5) B e41_2 (by decide) ?_
 refine Ow.ldcText (pc' := 7) (k' := 2) (n' := 16) (nn := 12) (vs := [(.int 59), (.int 44), (.int 58)]) (z := 3) B e41_5 (w111 hw) (by decide) ⟨by decide, by decide⟩ (by decide) (by decide) ?_
 intro h2 a1 t3 kt3 Kh2 Ea1 Ca1 Va1 At3 Na1
 have zh2 := Kh2.1
 have la1 : (a1 : Nat) < h2.size := Ea1.lt
 have lt3 : (t3 : Nat) < h2.size := At3.lt
 refine Ow.aloadN (pc' := 8) B e41_7 ?_
 have f4 := hf1.keep Kh2 Ow.nin0
 refine Ow.getfield (pc' := 11) B e41_8 (w44 hw) Via.refl f4 ?_
 refine Ow.iloadN (pc' := 12) B e41_11 ?_
 refine Ow.iconst (pc' := 13) (x := 1) B e41_12 ?_
 refine Ow.isub (pc' := 14) (z := 0) B e41_13 ?_
 have f5 := hf2.keep Kh2 Ow.nin0 Ow.nin0
 refine Ow.Go.old (fun o6 => ?_)
 refine Ow.callVirtual (pc' := 17) (W := 1) (k' := 2) (n' := 16) (argsL := [(.int 0)]) (rest := [(.ref a1)]) (K := "java/lang/String") B e41_14 (w89 hw) (w90 hw) (w92 hw) (w92 hw) (w91 hw) (w11 hw) (w93 hw) (f5).1 (gCha hw G GS (j := 0) (x := px0) o6 f5 rfl (by simp)) pd24 ?_
 intro vq7 h8 S9 q7 zh8
 obtain ⟨rfl, rfl, rfl⟩ := q7
 refine Ow.Go.nr (S' := []) (st' := [(.int px0), (.ref a1)]) ?_
 refine Ow.Go.old (fun o10 => ?_)
 refine Ow.callVirtual (pc' := 20) (W := 0) (k' := 2) (n' := 16) (argsL := [(.int px0)]) (rest := []) (K := "java/lang/String") B e41_17 (w112 hw) (w113 hw) (w115 hw) (w115 hw) (w114 hw) (w11 hw) (w116 hw) Ea1 (con_indexOf_32 hw G GS (pa0 := a1) (pa1 := t3) (px0 := px0) (pk0 := kt3) o10 Ea1 Ca1 Va1 At3 (hk0) hc_px0) pd0 ?_
 intro vq11 h12 S13 q11 zh12
 rcases q11 with q11 | q11
 ·obtain ⟨y14, rfl, rfl, c15, c16, rfl⟩ := q11
  refine Ow.Go.nr (S' := []) (st' := [(.int y14)]) ?_
  refine Ow.ifT (pc' := 34) B e41_20 (tlt (c16)).1 ?_
  refine Ow.iloadN (pc' := 35) B e41_34 ?_
  exact Ow.retI (S' := []) (t := .int) B e41_35 (Or.inl (⟨rfl, ((Keep.refl _ []).trans Kh2 (fun _ q => nomatch q)), c15, rfl⟩))
 ·obtain ⟨y17, rfl, rfl, c18, c19, rfl⟩ := q11
  refine Ow.Go.nr (S' := []) (st' := [(.int y17)]) ?_
  refine Ow.ifF (pc' := 23) B e41_20 (flt (c19)).1 ?_
  refine Ow.aloadN (pc' := 24) B e41_23 ?_
  refine Ow.iloadN (pc' := 25) B e41_24 ?_
  refine Ow.iloadN (pc' := 26) B e41_25 ?_
  refine Ow.iconst (pc' := 27) (x := 1) B e41_26 ?_
  refine Ow.isub (pc' := 28) (z := 0) B e41_27 ?_
  refine Ow.Go.old (fun o20 => ?_)
  have f21 := hf0.keep Kh2
  refine Ow.callPrivate (pc' := 31) (W := 0) (k' := 2) (n' := 16) (argsL := [(.int 0), (.int 0)]) (rest := []) (K := "com/example/elsewhere/elsewhere/Field$Subfield") B e41_28 (w62 hw) (w63 hw) (w64 hw) (w31 hw) (w32 hw) (w65 hw) f21 (con_endBeforeSpaces_18 hw G GS (pa0 := pa0) o20) pd14 ?_
  intro vq22 h23 S24 q22 zh23
  obtain ⟨rfl, rfl, rfl⟩ := q22
  refine Ow.Go.nr (S' := []) (st' := [(.int 0)]) ?_
  refine Ow.goto (pc' := 35) B e41_31 ?_
  exact Ow.retI (S' := []) (t := .int) B e41_35 (Or.inr (⟨rfl, ((Keep.refl _ []).trans Kh2 (fun _ q => nomatch q)), c18, rfl⟩))
set_option maxRecDepth 65536 in
set_option maxHeartbeats 40000000 in
theorem con_withoutSeparator_34 (hw : Hw a0 Z) (G : Ow.Glo Z cz sf) (GS : GlS Z) {pa0 : Nat} {pa1 : Nat} {pa2 : Nat} {px0 : Int32} {pk0 : ClassId} {h0 : Heap} (O0 : Old Z n0 h0) (hf0 : Exa Z h0 pa0 "com/example/elsewhere/elsewhere/Field$Subfield") (hf1 : Fld Z h0 pa0 "com/example/elsewhere/elsewhere/Field$Subfield" "value" "Ljava/lang/String;" (.ref pa1)) (hf2 : Ow.Chs Z h0 pa1 pa2 pk0 [px0]) (hn0 : n0 ≤ pa0) (hn1 : n0 ≤ pa1) (hk0 : ¬ (px0 < (0 : Int32))) (hc_px0 : nar .char px0 = px0) :
    Ow.Con l Z EL1 n0 my41 prog_11_method_3_code 3 (Option.some (Jvm.ClassFile.FieldType.object "java/lang/String")) [] ({ frames := 7, cells := 5, slots := 32, locals := 110 } : Room) #[(.ref pa0)] [] h0 (fun v h S' => (v = some (.ref pa1) ∧ h = h0 ∧ px0 = (32 : Int32) ∧ S' = []) ∨ (v = some (.ref pa1) ∧ Keep h0 h [] ∧ ¬ (px0 = (32 : Int32)) ∧ ¬ (sepP px0) ∧ S' = []) ∨ (∃ r0 : Nat, ∃ r1 : Nat, ∃ k0 : ClassId, v = some (.ref r0) ∧ Keep h0 h [] ∧ ¬ (px0 = (32 : Int32)) ∧ sepP px0 ∧ Ow.Chs Z h r0 r1 k0 [] ∧ S' = [])) := by
 refine Ow.Con.enter (Ls := #[.val (.ref pa0), .unset, .unset]) (plainFor_of_name pn6) O0 (hEW hw) (hSA hw) ?_
 intro p e s m below meth c B
 have z0 := Ow.old_le O0
 have lpa0 : (pa0 : Nat) < h0.size := hf0.lt
 have lpa1 : (pa1 : Nat) < h0.size := hf2.lt
 have lpa2 : (pa2 : Nat) < h0.size := hf2.ltt
 refine Ow.aloadN (pc' := 1) B e39_0 ?_
 refine Ow.iconst (pc' := 2) (x := 0) B e39_1 ?_
 refine Ow.aloadN (pc' := 3) B e39_2 ?_
 refine Ow.getfield (pc' := 6) B e39_3 (w44 hw) Via.refl hf1 ?_
 refine Ow.Go.old (fun o1 => ?_)
 refine Ow.callVirtual (pc' := 9) (W := 2) (k' := 0) (n' := 0) (argsL := []) (rest := [(.int 0), (.ref pa0)]) (K := "java/lang/String") B e39_6 (w51 hw) (w52 hw) (w54 hw) (w54 hw) (w53 hw) (w11 hw) (w55 hw) (hf2).1 (gLen hw G GS o1 hf2 (by simp)) pd21 ?_
 intro vq2 h3 S4 q2 zh3
 obtain ⟨rfl, rfl, rfl⟩ := q2
 refine Ow.Go.nr (S' := []) (st' := [(.int 1), (.int 0), (.ref pa0)]) ?_
 refine Ow.Go.old (fun o5 => ?_)
 refine Ow.callPrivate (pc' := 12) (W := 0) (k' := 0) (n' := 0) (argsL := [(.int 0), (.int 1)]) (rest := []) (K := "com/example/elsewhere/elsewhere/Field$Subfield") B e39_9 (w62 hw) (w63 hw) (w64 hw) (w31 hw) (w32 hw) (w65 hw) hf0 (con_endBeforeSpaces_24 hw G GS (pa0 := pa0) (pa1 := pa1) (pa2 := pa2) (px0 := px0) (pk0 := pk0) o5 hf1 hf2 (by omega) (by omega) hc_px0) pd14 ?_
 intro vq6 h7 S8 q6 zh7
 rcases q6 with q6 | q6
 ·obtain ⟨rfl, rfl, c9, rfl⟩ := q6
  refine Ow.Go.nr (S' := []) (st' := [(.int 0)]) ?_
  refine Ow.istoreN (pc' := 13) (Ls' := #[.val (.ref pa0), .val (.int 0), .unset]) B e39_12 ?_
  refine Ow.aloadN (pc' := 14) B e39_13 ?_
  refine Ow.iconst (pc' := 15) (x := 0) B e39_14 ?_
  refine Ow.iloadN (pc' := 16) B e39_15 ?_
  refine Ow.Go.old (fun o10 => ?_)
  refine Ow.callPrivate (pc' := 19) (W := 0) (k' := 0) (n' := 0) (argsL := [(.int 0), (.int 0)]) (rest := []) (K := "com/example/elsewhere/elsewhere/Field$Subfield") B e39_16 (w66 hw) (w67 hw) (w68 hw) (w31 hw) (w32 hw) (w69 hw) hf0 (con_endBeforeSeparator_19 hw G GS (pa0 := pa0) o10) pd14 ?_
  intro vq11 h12 S13 q11 zh12
  obtain ⟨rfl, rfl, rfl⟩ := q11
  refine Ow.Go.nr (S' := []) (st' := [(.int 0)]) ?_
  refine Ow.istoreN (pc' := 20) (Ls' := #[.val (.ref pa0), .val (.int 0), .val (.int 0)]) B e39_19 ?_
  refine Ow.iloadN (pc' := 21) B e39_20 ?_
  refine Ow.iloadN (pc' := 22) B e39_21 ?_
  refine Ow.icmpF (pc' := 25) B e39_22 (by decide) ?_
  refine Ow.aloadN (pc' := 26) B e39_25 ?_
  refine Ow.getfield (pc' := 29) B e39_26 (w44 hw) Via.refl hf1 ?_
  refine Ow.goto (pc' := 41) B e39_29 ?_
  exact Ow.retA (S' := []) (t := (.object "java/lang/String")) B e39_41 (Or.inl (⟨rfl, rfl, c9, rfl⟩))
 ·obtain ⟨rfl, rfl, c14, rfl⟩ := q6
  refine Ow.Go.nr (S' := []) (st' := [(.int 1)]) ?_
  refine Ow.istoreN (pc' := 13) (Ls' := #[.val (.ref pa0), .val (.int 1), .unset]) B e39_12 ?_
  refine Ow.aloadN (pc' := 14) B e39_13 ?_
  refine Ow.iconst (pc' := 15) (x := 0) B e39_14 ?_
  refine Ow.iloadN (pc' := 16) B e39_15 ?_
  refine Ow.Go.old (fun o15 => ?_)
  refine Ow.callPrivate (pc' := 19) (W := 0) (k' := 2) (n' := 16) (argsL := [(.int 0), (.int 1)]) (rest := []) (K := "com/example/elsewhere/elsewhere/Field$Subfield") B e39_16 (w66 hw) (w67 hw) (w68 hw) (w31 hw) (w32 hw) (w69 hw) hf0 (con_endBeforeSeparator_33 hw G GS (pa0 := pa0) (pa1 := pa1) (pa2 := pa2) (px0 := px0) (pk0 := pk0) o15 hf0 hf1 hf2 (by omega) (by omega) (hk0) hc_px0) pd14 ?_
  intro vq16 h17 S18 q16 zh17
  rcases q16 with q16 | q16
  ·obtain ⟨rfl, Kh17, c19, rfl⟩ := q16
   refine Ow.Go.nr (S' := []) (st' := [(.int 1)]) ?_
   refine Ow.istoreN (pc' := 20) (Ls' := #[.val (.ref pa0), .val (.int 1), .val (.int 1)]) B e39_19 ?_
   refine Ow.iloadN (pc' := 21) B e39_20 ?_
   refine Ow.iloadN (pc' := 22) B e39_21 ?_
   refine Ow.icmpF (pc' := 25) B e39_22 (by decide) ?_
   refine Ow.aloadN (pc' := 26) B e39_25 ?_
   have f20 := hf1.keep Kh17 Ow.nin0
   refine Ow.getfield (pc' := 29) B e39_26 (w44 hw) Via.refl f20 ?_
   refine Ow.goto (pc' := 41) B e39_29 ?_
   exact Ow.retA (S' := []) (t := (.object "java/lang/String")) B e39_41 (Or.inr (Or.inl (⟨rfl, ((Keep.refl _ []).trans Kh17 (fun _ q => nomatch q)), c14, c19, rfl⟩)))
  ·obtain ⟨rfl, Kh17, c21, rfl⟩ := q16
   refine Ow.Go.nr (S' := []) (st' := [(.int 0)]) ?_
   refine Ow.istoreN (pc' := 20) (Ls' := #[.val (.ref pa0), .val (.int 1), .val (.int 0)]) B e39_19 ?_
   refine Ow.iloadN (pc' := 21) B e39_20 ?_
   refine Ow.iloadN (pc' := 22) B e39_21 ?_
   refine Ow.icmpT (pc' := 32) B e39_22 (by decide) ?_
   refine Ow.aloadN (pc' := 33) B e39_32 ?_
   have f22 := hf1.keep Kh17 Ow.nin0
   refine Ow.getfield (pc' := 36) B e39_33 (w44 hw) Via.refl f22 ?_
   refine Ow.iconst (pc' := 37) (x := 0) B e39_36 ?_
   refine Ow.iloadN (pc' := 38) B e39_37 ?_
   refine Ow.Go.old (fun o23 => ?_)
   have f24 := hf2.keep Kh17 Ow.nin0 Ow.nin0
   refine Ow.callVirtual (pc' := 41) (W := 0) (k' := 5) (n' := 32) (argsL := [(.int 0), (.int 0)]) (rest := []) (K := "java/lang/String") B e39_38 (w139 hw) (w140 hw) (w142 hw) (w142 hw) (w141 hw) (w11 hw) (w143 hw) (f24).1 (gSub hw G GS (cs := [px0]) (i := 0) (e' := 0) o23 f24 (by decide) (by simp) (Or.inr (Ow.allI (own_seplo (c21)) Ow.allI0)) (by simp) (by simp)) pd34 ?_
   intro vq25 h26 S27 q25 zh26
   obtain ⟨r28, t29, k30, rfl, Kh26, f31, rfl⟩ := q25
   have f31 : Ow.Chs Z h26 r28 t29 k30 [] := f31
   have lr28 : (r28 : Nat) < h26.size := f31.lt
   have lt29 : (t29 : Nat) < h26.size := f31.ltt
   refine Ow.Go.nr (S' := []) (st' := [(.ref r28)]) ?_
   exact Ow.retA (S' := []) (t := (.object "java/lang/String")) B e39_41 (Or.inr (Or.inr (⟨r28, t29, k30, rfl, (((Keep.refl _ []).trans Kh17 (fun _ q => nomatch q)).trans Kh26 (fun _ q => nomatch q)), c14, c21, f31, rfl⟩)))
set_option maxRecDepth 65536 in
set_option maxHeartbeats 40000000 in
theorem con_strip_35 (hw : Hw a0 Z) (G : Ow.Glo Z cz sf) (GS : GlS Z) {pa0 : Nat} {px0 : Int32} {px1 : Int32} {px2 : Int32} {px3 : Int32} {pk0 : ClassId} {h0 : Heap} (O0 : Old Z n0 h0) (hf0 : Arv Z h0 pa0 pk0 .char (4 : Int32) [(.int px0), (.int px1), (.int px2), (.int px3)] (.int 0)) (hn0 : n0 ≤ pa0) (hk0 : px0 = (32 : Int32)) (hc_px0 : nar .char px0 = px0) (hc_px1 : nar .char px1 = px1) (hc_px2 : nar .char px2 = px2) (hc_px3 : nar .char px3 = px3) :
    Ow.Con l Z EL1 n0 my42 method_4_code 3 (Option.some Jvm.ClassFile.FieldType.int) [] ({ frames := 0, cells := 0, slots := 0, locals := 0 } : Room) #[(.ref pa0), (.int 1)] [] h0 (fun v h S' => (v = some (.int 0) ∧ h = h0 ∧ S' = [])) := by
 refine Ow.Con.enter (Ls := #[.val (.ref pa0), .val (.int 1), .unset]) (plainFor_of_name pn5) O0 (hEW hw) (hSA hw) ?_
 intro p e s m below meth c B
 have z0 := Ow.old_le O0
 have lpa0 : (pa0 : Nat) < h0.size := hf0.lt
 refine Ow.iloadN (pc' := 1) B e42_0 ?_
 refine Ow.istoreN (pc' := 2) (Ls' := #[.val (.ref pa0), .val (.int 1), .val (.int 1)]) B e42_1 ?_
 refine Ow.iloadN (pc' := 3) B e42_2 ?_
 refine Ow.ifF (pc' := 6) B e42_3 (by decide) ?_
 refine Ow.aloadN (pc' := 7) B e42_6 ?_
 refine Ow.iloadN (pc' := 8) B e42_7 ?_
 refine Ow.iconst (pc' := 9) (x := 1) B e42_8 ?_
 refine Ow.isub (pc' := 10) (z := 0) B e42_9 ?_
 refine Ow.caload (pc' := 11) B e42_10 hf0 ⟨by decide, by decide⟩ rfl ?_
 refine Ow.bipush (pc' := 13) (x := 32) B e42_11 ?_
 refine Ow.icmpF (pc' := 16) B e42_13 (teq (hk0)).2 ?_
 refine Ow.iinc (pc' := 19) (y := 0) (Ls' := #[.val (.ref pa0), .val (.int 1), .val (.int 0)]) B e42_16 ?_
 refine Ow.iloadN (pc' := 20) B e42_19 ?_
 refine Ow.ifT (pc' := 36) B e42_20 (by decide) ?_
 refine Ow.iloadN (pc' := 37) B e42_36 ?_
 refine Ow.ifT (pc' := 53) B e42_37 (by decide) ?_
 refine Ow.iloadN (pc' := 54) B e42_53 ?_
 refine Ow.ifT (pc' := 70) B e42_54 (by decide) ?_
 refine Ow.iloadN (pc' := 71) B e42_70 ?_
 exact Ow.retI (S' := []) (t := .int) B e42_71 (⟨rfl, rfl, rfl⟩)
set_option maxRecDepth 65536 in
set_option maxHeartbeats 40000000 in
theorem con_strip_36 (hw : Hw a0 Z) (G : Ow.Glo Z cz sf) (GS : GlS Z) {pa0 : Nat} {px0 : Int32} {px1 : Int32} {px2 : Int32} {px3 : Int32} {pk0 : ClassId} {h0 : Heap} (O0 : Old Z n0 h0) (hf0 : Arv Z h0 pa0 pk0 .char (4 : Int32) [(.int px0), (.int px1), (.int px2), (.int px3)] (.int 0)) (hn0 : n0 ≤ pa0) (hk0 : ¬ (px0 = (32 : Int32))) (hc_px0 : nar .char px0 = px0) (hc_px1 : nar .char px1 = px1) (hc_px2 : nar .char px2 = px2) (hc_px3 : nar .char px3 = px3) :
    Ow.Con l Z EL1 n0 my42 method_4_code 3 (Option.some Jvm.ClassFile.FieldType.int) [] ({ frames := 0, cells := 0, slots := 0, locals := 0 } : Room) #[(.ref pa0), (.int 1)] [] h0 (fun v h S' => (v = some (.int 1) ∧ h = h0 ∧ S' = [])) := by
 refine Ow.Con.enter (Ls := #[.val (.ref pa0), .val (.int 1), .unset]) (plainFor_of_name pn5) O0 (hEW hw) (hSA hw) ?_
 intro p e s m below meth c B
 have z0 := Ow.old_le O0
 have lpa0 : (pa0 : Nat) < h0.size := hf0.lt
 refine Ow.iloadN (pc' := 1) B e42_0 ?_
 refine Ow.istoreN (pc' := 2) (Ls' := #[.val (.ref pa0), .val (.int 1), .val (.int 1)]) B e42_1 ?_
 refine Ow.iloadN (pc' := 3) B e42_2 ?_
 refine Ow.ifF (pc' := 6) B e42_3 (by decide) ?_
 refine Ow.aloadN (pc' := 7) B e42_6 ?_
 refine Ow.iloadN (pc' := 8) B e42_7 ?_
 refine Ow.iconst (pc' := 9) (x := 1) B e42_8 ?_
 refine Ow.isub (pc' := 10) (z := 0) B e42_9 ?_
 refine Ow.caload (pc' := 11) B e42_10 hf0 ⟨by decide, by decide⟩ rfl ?_
 refine Ow.bipush (pc' := 13) (x := 32) B e42_11 ?_
 refine Ow.icmpT (pc' := 19) B e42_13 (feq (hk0)).2 ?_
 refine Ow.iloadN (pc' := 20) B e42_19 ?_
 refine Ow.ifF (pc' := 23) B e42_20 (by decide) ?_
 refine Ow.aloadN (pc' := 24) B e42_23 ?_
 refine Ow.iloadN (pc' := 25) B e42_24 ?_
 refine Ow.iconst (pc' := 26) (x := 1) B e42_25 ?_
 refine Ow.isub (pc' := 27) (z := 0) B e42_26 ?_
 refine Ow.caload (pc' := 28) B e42_27 hf0 ⟨by decide, by decide⟩ rfl ?_
 refine Ow.bipush (pc' := 30) (x := 32) B e42_28 ?_
 refine Ow.icmpT (pc' := 36) B e42_30 (feq (hk0)).2 ?_
 refine Ow.iloadN (pc' := 37) B e42_36 ?_
 refine Ow.ifF (pc' := 40) B e42_37 (by decide) ?_
 refine Ow.aloadN (pc' := 41) B e42_40 ?_
 refine Ow.iloadN (pc' := 42) B e42_41 ?_
 refine Ow.iconst (pc' := 43) (x := 1) B e42_42 ?_
 refine Ow.isub (pc' := 44) (z := 0) B e42_43 ?_
 refine Ow.caload (pc' := 45) B e42_44 hf0 ⟨by decide, by decide⟩ rfl ?_
 refine Ow.bipush (pc' := 47) (x := 32) B e42_45 ?_
 refine Ow.icmpT (pc' := 53) B e42_47 (feq (hk0)).2 ?_
 refine Ow.iloadN (pc' := 54) B e42_53 ?_
 refine Ow.ifF (pc' := 57) B e42_54 (by decide) ?_
 refine Ow.aloadN (pc' := 58) B e42_57 ?_
 refine Ow.iloadN (pc' := 59) B e42_58 ?_
 refine Ow.iconst (pc' := 60) (x := 1) B e42_59 ?_
 refine Ow.isub (pc' := 61) (z := 0) B e42_60 ?_
 refine Ow.caload (pc' := 62) B e42_61 hf0 ⟨by decide, by decide⟩ rfl ?_
 refine Ow.bipush (pc' := 64) (x := 32) B e42_62 ?_
 refine Ow.icmpT (pc' := 70) B e42_64 (feq (hk0)).2 ?_
 refine Ow.iloadN (pc' := 71) B e42_70 ?_
 exact Ow.retI (S' := []) (t := .int) B e42_71 (⟨rfl, rfl, rfl⟩)
set_option maxRecDepth 65536 in
set_option maxHeartbeats 40000000 in
theorem con_prefixEq_37 (hw : Hw a0 Z) (G : Ow.Glo Z cz sf) (GS : GlS Z) {pa0 : Nat} {pa1 : Nat} {h0 : Heap} (O0 : Old Z n0 h0) :
    Ow.Con l Z EL1 n0 my50 method_5_code 3 (Option.some Jvm.ClassFile.FieldType.boolean) [] ({ frames := 0, cells := 0, slots := 0, locals := 0 } : Room) #[(.ref pa0), (.ref pa1), (.int 0)] [] h0 (fun v h S' => (v = some (.int 1) ∧ h = h0 ∧ S' = [])) := by
 refine Ow.Con.enter (Ls := #[.val (.ref pa0), .val (.ref pa1), .val (.int 0)]) (plainFor_of_name pn5) O0 (hEW hw) (hSA hw) ?_
 intro p e s m below meth c B
 have z0 := Ow.old_le O0
 refine Ow.iloadN (pc' := 1) B e50_0 ?_
 refine Ow.iconst (pc' := 2) (x := 1) B e50_1 ?_
 refine Ow.icmpT (pc' := 16) B e50_2 (by decide) ?_
 refine Ow.iloadN (pc' := 17) B e50_16 ?_
 refine Ow.iconst (pc' := 18) (x := 2) B e50_17 ?_
 refine Ow.icmpT (pc' := 32) B e50_18 (by decide) ?_
 refine Ow.iloadN (pc' := 33) B e50_32 ?_
 refine Ow.iconst (pc' := 34) (x := 3) B e50_33 ?_
 refine Ow.icmpT (pc' := 48) B e50_34 (by decide) ?_
 refine Ow.iloadN (pc' := 49) B e50_48 ?_
 refine Ow.iconst (pc' := 50) (x := 4) B e50_49 ?_
 refine Ow.icmpT (pc' := 64) B e50_50 (by decide) ?_
 refine Ow.iconst (pc' := 65) (x := 1) B e50_64 ?_
 refine Ow.goto (pc' := 69) B e50_65 ?_
 exact Ow.retI (S' := []) (t := .boolean) B e50_69 (⟨rfl, rfl, rfl⟩)
set_option maxRecDepth 65536 in
set_option maxHeartbeats 40000000 in
theorem con_str_38 (hw : Hw a0 Z) (G : Ow.Glo Z cz sf) (GS : GlS Z) {pa0 : Nat} {px0 : Int32} {px1 : Int32} {px2 : Int32} {px3 : Int32} {pk0 : ClassId} {h0 : Heap} (O0 : Old Z n0 h0) (hf0 : Arv Z h0 pa0 pk0 .char (4 : Int32) [(.int px0), (.int px1), (.int px2), (.int px3)] (.int 0)) (hn0 : n0 ≤ pa0) (hk0 : ¬ (px0 < (0 : Int32))) (hk1 : ¬ ((65535 : Int32) < px0)) (hk2 : ¬ (px1 < (0 : Int32))) (hk3 : ¬ ((65535 : Int32) < px1)) (hc_px0 : nar .char px0 = px0) (hc_px1 : nar .char px1 = px1) (hc_px2 : nar .char px2 = px2) (hc_px3 : nar .char px3 = px3) :
    Ow.Con l Z EL1 n0 my36 method_3_code 2 (Option.some (Jvm.ClassFile.FieldType.object "java/lang/String")) [] ({ frames := 6, cells := 6, slots := 18, locals := 88 } : Room) #[(.int 2), (.ref pa0)] [] h0 (fun v h S' => (∃ r0 : Nat, ∃ r1 : Nat, ∃ k0 : ClassId, v = some (.ref r0) ∧ Keep h0 h [] ∧ h0.size ≤ r0 ∧ Ow.Chs Z h r0 r1 k0 [px0, px1] ∧ S' = [])) := by
 refine Ow.Con.enter (Ls := #[.val (.int 2), .val (.ref pa0)]) (plainFor_of_name pn5) O0 (hEW hw) (hSA hw) ?_
 intro p e s m below meth c B
 have z0 := Ow.old_le O0
 have lpa0 : (pa0 : Nat) < h0.size := hf0.lt
 refine Ow.iloadN (pc' := 1) B e36_0 ?_
 refine Ow.ifT (pc' := 15) B e36_1 (by decide) ?_
 refine Ow.iloadN (pc' := 16) B e36_15 ?_
 refine Ow.iconst (pc' := 17) (x := 1) B e36_16 ?_
 refine Ow.icmpT (pc' := 37) B e36_17 (by decide) ?_
 refine Ow.iloadN (pc' := 38) B e36_37 ?_
 refine Ow.iconst (pc' := 39) (x := 2) B e36_38 ?_
 refine Ow.icmpF (pc' := 42) B e36_39 (by decide) ?_
 refine Ow.newObj (pc' := 45) (k' := 1) (n' := 4) B e36_42 (w9 hw) (w10 hw) (w11 hw) ?_
 intro h2 a1 ga1 ba1 Kh2 Aa1 Da1
 have zh2 := Kh2.1
 have la1 : (a1 : Nat) < h2.size := Aa1.lt
 have f3 : Fld Z h2 a1 "java/lang/String" "value" "[B" .null := Da1 (Or.inr (w24 hw)) (ty := (.array .byte)) (by decide)
 have f4 : Fld Z h2 a1 "java/lang/String" "coder" "B" (.int 0) := Da1 (Or.inr (w25 hw)) (ty := .byte) (by decide)
 refine Ow.dup (pc' := 46) B e36_45 ?_
 refine Ow.iconst (pc' := 47) (x := 2) B e36_46 ?_
 refine Ow.newArr (pc' := 49) (k' := 2) (n' := 6) (cap := 2) B e36_47 (w1 hw) (by decide) (by decide) ?_
 intro h6 a5 ka5 ga5 ba5 Kh6 V0a5
 have zh6 := Kh6.1
 have la5 : (a5 : Nat) < h6.size := V0a5.lt
 have Va5 : Arv Z h6 a5 ka5 .char (2 : Int32) [(.int 0), (.int 0)] (.int 0) := V0a5.pad (pad_rep [] (.int 0) 2)
 refine Ow.dup (pc' := 50) B e36_49 ?_
 refine Ow.iconst (pc' := 51) (x := 0) B e36_50 ?_
 refine Ow.aloadN (pc' := 52) B e36_51 ?_
 refine Ow.iconst (pc' := 53) (x := 0) B e36_52 ?_
 have f7 := hf0.keep Kh2 Ow.nin0
 have f8 := f7.keep Kh6 Ow.nin0
 refine Ow.caload (pc' := 54) B e36_53 f8 ⟨by decide, by decide⟩ rfl ?_
 refine Ow.castore (pc' := 55) (i := 0) B e36_54 Va5 ⟨by decide, by decide⟩ ?_
 intro h9 Kh9 V0h9
 have zh9 := Kh9.1
 have V10 : Arv Z h9 a5 ka5 .char (2 : Int32) [(.int px0), (.int 0)] (.int 0) := (by have e0 := V0h9; rw [show nar .char px0 = px0 from hc_px0] at e0; exact e0)
 refine Ow.dup (pc' := 56) B e36_55 ?_
 refine Ow.iconst (pc' := 57) (x := 1) B e36_56 ?_
 refine Ow.aloadN (pc' := 58) B e36_57 ?_
 refine Ow.iconst (pc' := 59) (x := 1) B e36_58 ?_
 have f11 := f8.keep Kh9 (Ow.ninS (by omega) Ow.nin0)
 refine Ow.caload (pc' := 60) B e36_59 f11 ⟨by decide, by decide⟩ rfl ?_
 refine Ow.castore (pc' := 61) (i := 1) B e36_60 V10 ⟨by decide, by decide⟩ ?_
 intro h12 Kh12 V0h12
 have zh12 := Kh12.1
 have V13 : Arv Z h12 a5 ka5 .char (2 : Int32) [(.int px0), (.int px1)] (.int 0) := (by have e0 := V0h12; rw [show nar .char px1 = px1 from hc_px1] at e0; exact e0)
 have f14 := Aa1.keep Kh6
 have f15 := f14.keep Kh9
 have f16 := f15.keep Kh12
 have f17 := f3.keep Kh6 Ow.nin0
 have f18 := f17.keep Kh9 (Ow.ninS (by omega) Ow.nin0)
 have f19 := f18.keep Kh12 (Ow.ninS (by omega) Ow.nin0)
 have f20 := f4.keep Kh6 Ow.nin0
 have f21 := f20.keep Kh9 (Ow.ninS (by omega) Ow.nin0)
 have f22 := f21.keep Kh12 (Ow.ninS (by omega) Ow.nin0)
 refine Ow.Go.old (fun o23 => ?_)
 refine Ow.callInit (pc' := 64) (W := 1) (k' := 6) (n' := 18) (argsL := [(.ref a5)]) (rest := [(.ref a1)]) B e36_61 (w12 hw) (w13 hw) (w11 hw) (w14 hw) (gIni hw G GS (cs := [px0, px1]) o23 V13 f16 f19 f22 (by omega) (by omega) (Ow.allI ⟨hk0, hk1⟩ (Ow.allI ⟨hk2, hk3⟩ Ow.allI0)) (by simp) (by simp)) pd25 ?_
 intro vq24 h25 S26 q24 zh25
 obtain ⟨t27, k28, rfl, Kh25, f29, rfl⟩ := q24
 have lt27 : (t27 : Nat) < h25.size := f29.ltt
 refine Ow.Go.nr (S' := [a5, a1]) (st' := [(.ref a1)]) ?_
 exact Ow.retA (S' := []) (t := (.object "java/lang/String")) B e36_64 (⟨a1, t27, k28, rfl, ((((((Keep.refl _ []).trans Kh2 (fun _ q => nomatch q)).trans Kh6 (fun _ q => nomatch q)).trans Kh9 (allS (Or.inr (by omega)) all0)).trans Kh12 (allS (Or.inr (by omega)) all0)).trans Kh25 (allS (Or.inr (by omega)) all0)), (by omega), f29, rfl⟩)
set_option maxRecDepth 65536 in
set_option maxHeartbeats 40000000 in
theorem con_endBeforeSpaces_39 (hw : Hw a0 Z) (G : Ow.Glo Z cz sf) (GS : GlS Z) {pa0 : Nat} {pa1 : Nat} {pa2 : Nat} {px0 : Int32} {px1 : Int32} {pk0 : ClassId} {h0 : Heap} (O0 : Old Z n0 h0) (hf0 : Fld Z h0 pa0 "com/example/elsewhere/elsewhere/Field$Subfield" "value" "Ljava/lang/String;" (.ref pa1)) (hf1 : Ow.Chs Z h0 pa1 pa2 pk0 [px0, px1]) (hn0 : n0 ≤ pa0) (hn1 : n0 ≤ pa1) (hc_px0 : nar .char px0 = px0) (hc_px1 : nar .char px1 = px1) :
    Ow.Con l Z EL1 n0 my39 prog_11_method_5_code 4 (Option.some Jvm.ClassFile.FieldType.int) [] ({ frames := 5, cells := 0, slots := 0, locals := 66 } : Room) #[(.ref pa0), (.int 0), (.int 2)] [] h0 (fun v h S' => (v = some (.int 0) ∧ h = h0 ∧ px1 = (32 : Int32) ∧ px0 = (32 : Int32) ∧ S' = []) ∨ (v = some (.int 1) ∧ h = h0 ∧ px1 = (32 : Int32) ∧ ¬ (px0 = (32 : Int32)) ∧ S' = []) ∨ (v = some (.int 2) ∧ h = h0 ∧ ¬ (px1 = (32 : Int32)) ∧ S' = [])) := by
 refine Ow.Con.enter (Ls := #[.val (.ref pa0), .val (.int 0), .val (.int 2), .unset]) (plainFor_of_name pn6) O0 (hEW hw) (hSA hw) ?_
 intro p e s m below meth c B
 have z0 := Ow.old_le O0
 have lpa0 : (pa0 : Nat) < h0.size := hf0.lt
 have lpa1 : (pa1 : Nat) < h0.size := hf1.lt
 have lpa2 : (pa2 : Nat) < h0.size := hf1.ltt
 refine Ow.iloadN (pc' := 1) B e40_0 ?_
 refine Ow.istoreN (pc' := 2) (Ls' := #[.val (.ref pa0), .val (.int 0), .val (.int 2), .val (.int 2)]) B e40_1 ?_
 refine Ow.iloadN (pc' := 3) B e40_2 ?_
 refine Ow.iloadN (pc' := 4) B e40_3 ?_
 refine Ow.icmpF (pc' := 7) B e40_4 (by decide) ?_
 refine Ow.aloadN (pc' := 8) B e40_7 ?_
 refine Ow.getfield (pc' := 11) B e40_8 (w44 hw) Via.refl hf0 ?_
 refine Ow.iloadN (pc' := 12) B e40_11 ?_
 refine Ow.iconst (pc' := 13) (x := 1) B e40_12 ?_
 refine Ow.isub (pc' := 14) (z := 1) B e40_13 ?_
 refine Ow.Go.old (fun o1 => ?_)
 refine Ow.callVirtual (pc' := 17) (W := 0) (k' := 0) (n' := 0) (argsL := [(.int 1)]) (rest := []) (K := "java/lang/String") B e40_14 (w89 hw) (w90 hw) (w92 hw) (w92 hw) (w91 hw) (w11 hw) (w93 hw) (hf1).1 (gCha hw G GS (j := 1) (x := px1) o1 hf1 rfl (by simp)) pd24 ?_
 intro vq2 h3 S4 q2 zh3
 obtain ⟨rfl, rfl, rfl⟩ := q2
 refine Ow.Go.nr (S' := []) (st' := [(.int px1)]) ?_
 refine Ow.bipush (pc' := 19) (x := 32) B e40_17 ?_
 by_cases c5 : px1 = (32 : Int32)
 ·refine Ow.icmpF (pc' := 22) B e40_19 (teq c5).2 ?_
  refine Ow.iinc (pc' := 25) (y := 1) (Ls' := #[.val (.ref pa0), .val (.int 0), .val (.int 2), .val (.int 1)]) B e40_22 ?_
  refine Ow.goto (pc' := 2) B e40_25 ?_
  refine Ow.iloadN (pc' := 3) B e40_2 ?_
  refine Ow.iloadN (pc' := 4) B e40_3 ?_
  refine Ow.icmpF (pc' := 7) B e40_4 (by decide) ?_
  refine Ow.aloadN (pc' := 8) B e40_7 ?_
  refine Ow.getfield (pc' := 11) B e40_8 (w44 hw) Via.refl hf0 ?_
  refine Ow.iloadN (pc' := 12) B e40_11 ?_
  refine Ow.iconst (pc' := 13) (x := 1) B e40_12 ?_
  refine Ow.isub (pc' := 14) (z := 0) B e40_13 ?_
  refine Ow.Go.old (fun o6 => ?_)
  refine Ow.callVirtual (pc' := 17) (W := 0) (k' := 0) (n' := 0) (argsL := [(.int 0)]) (rest := []) (K := "java/lang/String") B e40_14 (w89 hw) (w90 hw) (w92 hw) (w92 hw) (w91 hw) (w11 hw) (w93 hw) (hf1).1 (gCha hw G GS (j := 0) (x := px0) o6 hf1 rfl (by simp)) pd24 ?_
  intro vq7 h8 S9 q7 zh8
  obtain ⟨rfl, rfl, rfl⟩ := q7
  refine Ow.Go.nr (S' := []) (st' := [(.int px0)]) ?_
  refine Ow.bipush (pc' := 19) (x := 32) B e40_17 ?_
  by_cases c10 : px0 = (32 : Int32)
  ·refine Ow.icmpF (pc' := 22) B e40_19 (teq c10).2 ?_
   refine Ow.iinc (pc' := 25) (y := 0) (Ls' := #[.val (.ref pa0), .val (.int 0), .val (.int 2), .val (.int 0)]) B e40_22 ?_
   refine Ow.goto (pc' := 2) B e40_25 ?_
   refine Ow.iloadN (pc' := 3) B e40_2 ?_
   refine Ow.iloadN (pc' := 4) B e40_3 ?_
   refine Ow.icmpT (pc' := 28) B e40_4 (by decide) ?_
   refine Ow.iloadN (pc' := 29) B e40_28 ?_
   exact Ow.retI (S' := []) (t := .int) B e40_29 (Or.inl (⟨rfl, rfl, c5, c10, rfl⟩))
  ·refine Ow.icmpT (pc' := 28) B e40_19 (feq c10).2 ?_
   refine Ow.iloadN (pc' := 29) B e40_28 ?_
   exact Ow.retI (S' := []) (t := .int) B e40_29 (Or.inr (Or.inl (⟨rfl, rfl, c5, c10, rfl⟩)))
 ·refine Ow.icmpT (pc' := 28) B e40_19 (feq c5).2 ?_
  refine Ow.iloadN (pc' := 29) B e40_28 ?_
  exact Ow.retI (S' := []) (t := .int) B e40_29 (Or.inr (Or.inr (⟨rfl, rfl, c5, rfl⟩)))
set_option maxRecDepth 65536 in
set_option maxHeartbeats 40000000 in
theorem con_endBeforeSeparator_40 (hw : Hw a0 Z) (G : Ow.Glo Z cz sf) (GS : GlS Z) {pa0 : Nat} {pa1 : Nat} {pa2 : Nat} {px0 : Int32} {px1 : Int32} {pk0 : ClassId} {h0 : Heap} (O0 : Old Z n0 h0) (hf0 : Exa Z h0 pa0 "com/example/elsewhere/elsewhere/Field$Subfield") (hf1 : Fld Z h0 pa0 "com/example/elsewhere/elsewhere/Field$Subfield" "value" "Ljava/lang/String;" (.ref pa1)) (hf2 : Ow.Chs Z h0 pa1 pa2 pk0 [px0, px1]) (hn0 : n0 ≤ pa0) (hn1 : n0 ≤ pa1) (hk0 : ¬ (px0 < (0 : Int32))) (hc_px0 : nar .char px0 = px0) (hc_px1 : nar .char px1 = px1) :
    Ow.Con l Z EL1 n0 my40 prog_11_method_4_code 3 (Option.some Jvm.ClassFile.FieldType.int) [] ({ frames := 5, cells := 2, slots := 16, locals := 67 } : Room) #[(.ref pa0), (.int 0), (.int 1)] [] h0 (fun v h S' => (v = some (.int 1) ∧ Keep h0 h [] ∧ ¬ (sepP px0) ∧ S' = []) ∨ (v = some (.int 0) ∧ Keep h0 h [] ∧ sepP px0 ∧ S' = [])) := by
 refine Ow.Con.enter (Ls := #[.val (.ref pa0), .val (.int 0), .val (.int 1)]) (plainFor_of_name pn6) O0 (hEW hw) (hSA hw) ?_
 intro p e s m below meth c B
 have z0 := Ow.old_le O0
 have lpa0 : (pa0 : Nat) < h0.size := hf0.lt
 have lpa1 : (pa1 : Nat) < h0.size := hf2.lt
 have lpa2 : (pa2 : Nat) < h0.size := hf2.ltt
 refine Ow.iloadN (pc' := 1) B e41_0 ?_
 refine Ow.iloadN (pc' := 2) B e41_1 ?_
 refine Ow.icmpF (pc' := 5) B e41_2 (by decide) ?_
 refine Ow.ldcText (pc' := 7) (k' := 2) (n' := 16) (nn := 12) (vs := [(.int 59), (.int 44), (.int 58)]) (z := 3) B e41_5 (w111 hw) (by decide) ⟨by decide, by decide⟩ (by decide) (by decide) ?_
 intro h2 a1 t3 kt3 Kh2 Ea1 Ca1 Va1 At3 Na1
 have zh2 := Kh2.1
 have la1 : (a1 : Nat) < h2.size := Ea1.lt
 have lt3 : (t3 : Nat) < h2.size := At3.lt
 refine Ow.aloadN (pc' := 8) B e41_7 ?_
 have f4 := hf1.keep Kh2 Ow.nin0
 refine Ow.getfield (pc' := 11) B e41_8 (w44 hw) Via.refl f4 ?_
 refine Ow.iloadN (pc' := 12) B e41_11 ?_
 refine Ow.iconst (pc' := 13) (x := 1) B e41_12 ?_
 refine Ow.isub (pc' := 14) (z := 0) B e41_13 ?_
 have f5 := hf2.keep Kh2 Ow.nin0 Ow.nin0
 refine Ow.Go.old (fun o6 => ?_)
 refine Ow.callVirtual (pc' := 17) (W := 1) (k' := 2) (n' := 16) (argsL := [(.int 0)]) (rest := [(.ref a1)]) (K := "java/lang/String") B e41_14 (w89 hw) (w90 hw) (w92 hw) (w92 hw) (w91 hw) (w11 hw) (w93 hw) (f5).1 (gCha hw G GS (j := 0) (x := px0) o6 f5 rfl (by simp)) pd24 ?_
 intro vq7 h8 S9 q7 zh8
 obtain ⟨rfl, rfl, rfl⟩ := q7
 refine Ow.Go.nr (S' := []) (st' := [(.int px0), (.ref a1)]) ?_
 refine Ow.Go.old (fun o10 => ?_)
 refine Ow.callVirtual (pc' := 20) (W := 0) (k' := 2) (n' := 16) (argsL := [(.int px0)]) (rest := []) (K := "java/lang/String") B e41_17 (w112 hw) (w113 hw) (w115 hw) (w115 hw) (w114 hw) (w11 hw) (w116 hw) Ea1 (con_indexOf_32 hw G GS (pa0 := a1) (pa1 := t3) (px0 := px0) (pk0 := kt3) o10 Ea1 Ca1 Va1 At3 (hk0) hc_px0) pd0 ?_
 intro vq11 h12 S13 q11 zh12
 rcases q11 with q11 | q11
 ·obtain ⟨y14, rfl, rfl, c15, c16, rfl⟩ := q11
  refine Ow.Go.nr (S' := []) (st' := [(.int y14)]) ?_
  refine Ow.ifT (pc' := 34) B e41_20 (tlt (c16)).1 ?_
  refine Ow.iloadN (pc' := 35) B e41_34 ?_
  exact Ow.retI (S' := []) (t := .int) B e41_35 (Or.inl (⟨rfl, ((Keep.refl _ []).trans Kh2 (fun _ q => nomatch q)), c15, rfl⟩))
 ·obtain ⟨y17, rfl, rfl, c18, c19, rfl⟩ := q11
  refine Ow.Go.nr (S' := []) (st' := [(.int y17)]) ?_
  refine Ow.ifF (pc' := 23) B e41_20 (flt (c19)).1 ?_
  refine Ow.aloadN (pc' := 24) B e41_23 ?_
  refine Ow.iloadN (pc' := 25) B e41_24 ?_
  refine Ow.iloadN (pc' := 26) B e41_25 ?_
  refine Ow.iconst (pc' := 27) (x := 1) B e41_26 ?_
  refine Ow.isub (pc' := 28) (z := 0) B e41_27 ?_
  refine Ow.Go.old (fun o20 => ?_)
  have f21 := hf0.keep Kh2
  refine Ow.callPrivate (pc' := 31) (W := 0) (k' := 2) (n' := 16) (argsL := [(.int 0), (.int 0)]) (rest := []) (K := "com/example/elsewhere/elsewhere/Field$Subfield") B e41_28 (w62 hw) (w63 hw) (w64 hw) (w31 hw) (w32 hw) (w65 hw) f21 (con_endBeforeSpaces_18 hw G GS (pa0 := pa0) o20) pd14 ?_
  intro vq22 h23 S24 q22 zh23
  obtain ⟨rfl, rfl, rfl⟩ := q22
  refine Ow.Go.nr (S' := []) (st' := [(.int 0)]) ?_
  refine Ow.goto (pc' := 35) B e41_31 ?_
  exact Ow.retI (S' := []) (t := .int) B e41_35 (Or.inr (⟨rfl, ((Keep.refl _ []).trans Kh2 (fun _ q => nomatch q)), c18, rfl⟩))
set_option maxRecDepth 65536 in
set_option maxHeartbeats 40000000 in
theorem con_endBeforeSpaces_41 (hw : Hw a0 Z) (G : Ow.Glo Z cz sf) (GS : GlS Z) {pa0 : Nat} {pa1 : Nat} {pa2 : Nat} {px0 : Int32} {px1 : Int32} {pk0 : ClassId} {h0 : Heap} (O0 : Old Z n0 h0) (hf0 : Fld Z h0 pa0 "com/example/elsewhere/elsewhere/Field$Subfield" "value" "Ljava/lang/String;" (.ref pa1)) (hf1 : Ow.Chs Z h0 pa1 pa2 pk0 [px0, px1]) (hn0 : n0 ≤ pa0) (hn1 : n0 ≤ pa1) (hc_px0 : nar .char px0 = px0) (hc_px1 : nar .char px1 = px1) :
    Ow.Con l Z EL1 n0 my39 prog_11_method_5_code 4 (Option.some Jvm.ClassFile.FieldType.int) [] ({ frames := 5, cells := 0, slots := 0, locals := 66 } : Room) #[(.ref pa0), (.int 0), (.int 1)] [] h0 (fun v h S' => (v = some (.int 0) ∧ h = h0 ∧ px0 = (32 : Int32) ∧ S' = []) ∨ (v = some (.int 1) ∧ h = h0 ∧ ¬ (px0 = (32 : Int32)) ∧ S' = [])) := by
 refine Ow.Con.enter (Ls := #[.val (.ref pa0), .val (.int 0), .val (.int 1), .unset]) (plainFor_of_name pn6) O0 (hEW hw) (hSA hw) ?_
 intro p e s m below meth c B
 have z0 := Ow.old_le O0
 have lpa0 : (pa0 : Nat) < h0.size := hf0.lt
 have lpa1 : (pa1 : Nat) < h0.size := hf1.lt
 have lpa2 : (pa2 : Nat) < h0.size := hf1.ltt
 refine Ow.iloadN (pc' := 1) B e40_0 ?_
 refine Ow.istoreN (pc' := 2) (Ls' := #[.val (.ref pa0), .val (.int 0), .val (.int 1), .val (.int 1)]) B e40_1 ?_
 refine Ow.iloadN (pc' := 3) B e40_2 ?_
 refine Ow.iloadN (pc' := 4) B e40_3 ?_
 refine Ow.icmpF (pc' := 7) B e40_4 (by decide) ?_
 refine Ow.aloadN (pc' := 8) B e40_7 ?_
 refine Ow.getfield (pc' := 11) B e40_8 (w44 hw) Via.refl hf0 ?_
 refine Ow.iloadN (pc' := 12) B e40_11 ?_
 refine Ow.iconst (pc' := 13) (x := 1) B e40_12 ?_
 refine Ow.isub (pc' := 14) (z := 0) B e40_13 ?_
 refine Ow.Go.old (fun o1 => ?_)
 refine Ow.callVirtual (pc' := 17) (W := 0) (k' := 0) (n' := 0) (argsL := [(.int 0)]) (rest := []) (K := "java/lang/String") B e40_14 (w89 hw) (w90 hw) (w92 hw) (w92 hw) (w91 hw) (w11 hw) (w93 hw) (hf1).1 (gCha hw G GS (j := 0) (x := px0) o1 hf1 rfl (by simp)) pd24 ?_
 intro vq2 h3 S4 q2 zh3
 obtain ⟨rfl, rfl, rfl⟩ := q2
 refine Ow.Go.nr (S' := []) (st' := [(.int px0)]) ?_
 refine Ow.bipush (pc' := 19) (x := 32) B e40_17 ?_
 by_cases c5 : px0 = (32 : Int32)
 ·refine Ow.icmpF (pc' := 22) B e40_19 (teq c5).2 ?_
  refine Ow.iinc (pc' := 25) (y := 0) (Ls' := #[.val (.ref pa0), .val (.int 0), .val (.int 1), .val (.int 0)]) B e40_22 ?_
  refine Ow.goto (pc' := 2) B e40_25 ?_
  refine Ow.iloadN (pc' := 3) B e40_2 ?_
  refine Ow.iloadN (pc' := 4) B e40_3 ?_
  refine Ow.icmpT (pc' := 28) B e40_4 (by decide) ?_
  refine Ow.iloadN (pc' := 29) B e40_28 ?_
  exact Ow.retI (S' := []) (t := .int) B e40_29 (Or.inl (⟨rfl, rfl, c5, rfl⟩))
 ·refine Ow.icmpT (pc' := 28) B e40_19 (feq c5).2 ?_
  refine Ow.iloadN (pc' := 29) B e40_28 ?_
  exact Ow.retI (S' := []) (t := .int) B e40_29 (Or.inr (⟨rfl, rfl, c5, rfl⟩))
set_option maxRecDepth 65536 in
set_option maxHeartbeats 40000000 in
theorem con_endBeforeSeparator_42 (hw : Hw a0 Z) (G : Ow.Glo Z cz sf) (GS : GlS Z) {pa0 : Nat} {pa1 : Nat} {pa2 : Nat} {px0 : Int32} {px1 : Int32} {pk0 : ClassId} {h0 : Heap} (O0 : Old Z n0 h0) (hf0 : Exa Z h0 pa0 "com/example/elsewhere/elsewhere/Field$Subfield") (hf1 : Fld Z h0 pa0 "com/example/elsewhere/elsewhere/Field$Subfield" "value" "Ljava/lang/String;" (.ref pa1)) (hf2 : Ow.Chs Z h0 pa1 pa2 pk0 [px0, px1]) (hn0 : n0 ≤ pa0) (hn1 : n0 ≤ pa1) (hk0 : ¬ (px1 < (0 : Int32))) (hc_px0 : nar .char px0 = px0) (hc_px1 : nar .char px1 = px1) :
    Ow.Con l Z EL1 n0 my40 prog_11_method_4_code 3 (Option.some Jvm.ClassFile.FieldType.int) [] ({ frames := 6, cells := 2, slots := 16, locals := 81 } : Room) #[(.ref pa0), (.int 0), (.int 2)] [] h0 (fun v h S' => (v = some (.int 2) ∧ Keep h0 h [] ∧ ¬ (sepP px1) ∧ S' = []) ∨ (v = some (.int 0) ∧ Keep h0 h [] ∧ sepP px1 ∧ px0 = (32 : Int32) ∧ S' = []) ∨ (v = some (.int 1) ∧ Keep h0 h [] ∧ sepP px1 ∧ ¬ (px0 = (32 : Int32)) ∧ S' = [])) := by
 refine Ow.Con.enter (Ls := #[.val (.ref pa0), .val (.int 0), .val (.int 2)]) (plainFor_of_name pn6) O0 (hEW hw) (hSA hw) ?_
 intro p e s m below meth c B
 have z0 := Ow.old_le O0
 have lpa0 : (pa0 : Nat) < h0.size := hf0.lt
 have lpa1 : (pa1 : Nat) < h0.size := hf2.lt
 have lpa2 : (pa2 : Nat) < h0.size := hf2.ltt
 refine Ow.iloadN (pc' := 1) B e41_0 ?_
 refine Ow.iloadN (pc' := 2) B e41_1 ?_
 refine Ow.icmpF (pc' := 5) B e41_2 (by decide) ?_
 refine Ow.ldcText (pc' := 7) (k' := 2) (n' := 16) (nn := 12) (vs := [(.int 59), (.int 44), (.int 58)]) (z := 3) B e41_5 (w111 hw) (by decide) ⟨by decide, by decide⟩ (by decide) (by decide) ?_
 intro h2 a1 t3 kt3 Kh2 Ea1 Ca1 Va1 At3 Na1
 have zh2 := Kh2.1
 have la1 : (a1 : Nat) < h2.size := Ea1.lt
 have lt3 : (t3 : Nat) < h2.size := At3.lt
 refine Ow.aloadN (pc' := 8) B e41_7 ?_
 have f4 := hf1.keep Kh2 Ow.nin0
 refine Ow.getfield (pc' := 11) B e41_8 (w44 hw) Via.refl f4 ?_
 refine Ow.iloadN (pc' := 12) B e41_11 ?_
 refine Ow.iconst (pc' := 13) (x := 1) B e41_12 ?_
 refine Ow.isub (pc' := 14) (z := 1) B e41_13 ?_
 have f5 := hf2.keep Kh2 Ow.nin0 Ow.nin0
 refine Ow.Go.old (fun o6 => ?_)
 refine Ow.callVirtual (pc' := 17) (W := 1) (k' := 2) (n' := 16) (argsL := [(.int 1)]) (rest := [(.ref a1)]) (K := "java/lang/String") B e41_14 (w89 hw) (w90 hw) (w92 hw) (w92 hw) (w91 hw) (w11 hw) (w93 hw) (f5).1 (gCha hw G GS (j := 1) (x := px1) o6 f5 rfl (by simp)) pd24 ?_
 intro vq7 h8 S9 q7 zh8
 obtain ⟨rfl, rfl, rfl⟩ := q7
 refine Ow.Go.nr (S' := []) (st' := [(.int px1), (.ref a1)]) ?_
 refine Ow.Go.old (fun o10 => ?_)
 refine Ow.callVirtual (pc' := 20) (W := 0) (k' := 2) (n' := 16) (argsL := [(.int px1)]) (rest := []) (K := "java/lang/String") B e41_17 (w112 hw) (w113 hw) (w115 hw) (w115 hw) (w114 hw) (w11 hw) (w116 hw) Ea1 (con_indexOf_32 hw G GS (pa0 := a1) (pa1 := t3) (px0 := px1) (pk0 := kt3) o10 Ea1 Ca1 Va1 At3 (hk0) hc_px1) pd0 ?_
 intro vq11 h12 S13 q11 zh12
 rcases q11 with q11 | q11
 ·obtain ⟨y14, rfl, rfl, c15, c16, rfl⟩ := q11
  refine Ow.Go.nr (S' := []) (st' := [(.int y14)]) ?_
  refine Ow.ifT (pc' := 34) B e41_20 (tlt (c16)).1 ?_
  refine Ow.iloadN (pc' := 35) B e41_34 ?_
  exact Ow.retI (S' := []) (t := .int) B e41_35 (Or.inl (⟨rfl, ((Keep.refl _ []).trans Kh2 (fun _ q => nomatch q)), c15, rfl⟩))
 ·obtain ⟨y17, rfl, rfl, c18, c19, rfl⟩ := q11
  refine Ow.Go.nr (S' := []) (st' := [(.int y17)]) ?_
  refine Ow.ifF (pc' := 23) B e41_20 (flt (c19)).1 ?_
  refine Ow.aloadN (pc' := 24) B e41_23 ?_
  refine Ow.iloadN (pc' := 25) B e41_24 ?_
  refine Ow.iloadN (pc' := 26) B e41_25 ?_
  refine Ow.iconst (pc' := 27) (x := 1) B e41_26 ?_
  refine Ow.isub (pc' := 28) (z := 1) B e41_27 ?_
  refine Ow.Go.old (fun o20 => ?_)
  have f21 := hf0.keep Kh2
  refine Ow.callPrivate (pc' := 31) (W := 0) (k' := 2) (n' := 16) (argsL := [(.int 0), (.int 1)]) (rest := []) (K := "com/example/elsewhere/elsewhere/Field$Subfield") B e41_28 (w62 hw) (w63 hw) (w64 hw) (w31 hw) (w32 hw) (w65 hw) f21 (con_endBeforeSpaces_41 hw G GS (pa0 := pa0) (pa1 := pa1) (pa2 := pa2) (px0 := px0) (px1 := px1) (pk0 := pk0) o20 f4 f5 (by omega) (by omega) hc_px0 hc_px1) pd14 ?_
  intro vq22 h23 S24 q22 zh23
  rcases q22 with q22 | q22
  ·obtain ⟨rfl, rfl, c25, rfl⟩ := q22
   refine Ow.Go.nr (S' := []) (st' := [(.int 0)]) ?_
   refine Ow.goto (pc' := 35) B e41_31 ?_
   exact Ow.retI (S' := []) (t := .int) B e41_35 (Or.inr (Or.inl (⟨rfl, ((Keep.refl _ []).trans Kh2 (fun _ q => nomatch q)), c18, c25, rfl⟩)))
  ·obtain ⟨rfl, rfl, c26, rfl⟩ := q22
   refine Ow.Go.nr (S' := []) (st' := [(.int 1)]) ?_
   refine Ow.goto (pc' := 35) B e41_31 ?_
   exact Ow.retI (S' := []) (t := .int) B e41_35 (Or.inr (Or.inr (⟨rfl, ((Keep.refl _ []).trans Kh2 (fun _ q => nomatch q)), c18, c26, rfl⟩)))
set_option maxRecDepth 65536 in
set_option maxHeartbeats 40000000 in
theorem con_withoutSeparator_43 (hw : Hw a0 Z) (G : Ow.Glo Z cz sf) (GS : GlS Z) {pa0 : Nat} {pa1 : Nat} {pa2 : Nat} {px0 : Int32} {px1 : Int32} {pk0 : ClassId} {h0 : Heap} (O0 : Old Z n0 h0) (hf0 : Exa Z h0 pa0 "com/example/elsewhere/elsewhere/Field$Subfield") (hf1 : Fld Z h0 pa0 "com/example/elsewhere/elsewhere/Field$Subfield" "value" "Ljava/lang/String;" (.ref pa1)) (hf2 : Ow.Chs Z h0 pa1 pa2 pk0 [px0, px1]) (hn0 : n0 ≤ pa0) (hn1 : n0 ≤ pa1) (hk0 : ¬ (px0 < (0 : Int32))) (hk1 : ¬ (px1 < (0 : Int32))) (hc_px0 : nar .char px0 = px0) (hc_px1 : nar .char px1 = px1) :
    Ow.Con l Z EL1 n0 my41 prog_11_method_3_code 3 (Option.some (Jvm.ClassFile.FieldType.object "java/lang/String")) [] ({ frames := 7, cells := 5, slots := 32, locals := 110 } : Room) #[(.ref pa0)] [] h0 (fun v h S' => (v = some (.ref pa1) ∧ h = h0 ∧ px1 = (32 : Int32) ∧ px0 = (32 : Int32) ∧ S' = []) ∨ (v = some (.ref pa1) ∧ Keep h0 h [] ∧ px1 = (32 : Int32) ∧ ¬ (px0 = (32 : Int32)) ∧ ¬ (sepP px0) ∧ S' = []) ∨ (∃ r0 : Nat, ∃ r1 : Nat, ∃ k0 : ClassId, v = some (.ref r0) ∧ Keep h0 h [] ∧ px1 = (32 : Int32) ∧ ¬ (px0 = (32 : Int32)) ∧ sepP px0 ∧ Ow.Chs Z h r0 r1 k0 [] ∧ S' = []) ∨ (v = some (.ref pa1) ∧ Keep h0 h [] ∧ ¬ (px1 = (32 : Int32)) ∧ ¬ (sepP px1) ∧ S' = []) ∨ (∃ r0 : Nat, ∃ r1 : Nat, ∃ k0 : ClassId, v = some (.ref r0) ∧ Keep h0 h [] ∧ ¬ (px1 = (32 : Int32)) ∧ sepP px1 ∧ px0 = (32 : Int32) ∧ Ow.Chs Z h r0 r1 k0 [] ∧ S' = []) ∨ (∃ r0 : Nat, ∃ r1 : Nat, ∃ k0 : ClassId, v = some (.ref r0) ∧ Keep h0 h [] ∧ ¬ (px1 = (32 : Int32)) ∧ sepP px1 ∧ ¬ (px0 = (32 : Int32)) ∧ Ow.Chs Z h r0 r1 k0 [px0] ∧ S' = [])) := by
 refine Ow.Con.enter (Ls := #[.val (.ref pa0), .unset, .unset]) (plainFor_of_name pn6) O0 (hEW hw) (hSA hw) ?_
 intro p e s m below meth c B
 have z0 := Ow.old_le O0
 have lpa0 : (pa0 : Nat) < h0.size := hf0.lt
 have lpa1 : (pa1 : Nat) < h0.size := hf2.lt
 have lpa2 : (pa2 : Nat) < h0.size := hf2.ltt
 refine Ow.aloadN (pc' := 1) B e39_0 ?_
 refine Ow.iconst (pc' := 2) (x := 0) B e39_1 ?_
 refine Ow.aloadN (pc' := 3) B e39_2 ?_
 refine Ow.getfield (pc' := 6) B e39_3 (w44 hw) Via.refl hf1 ?_
 refine Ow.Go.old (fun o1 => ?_)
 refine Ow.callVirtual (pc' := 9) (W := 2) (k' := 0) (n' := 0) (argsL := []) (rest := [(.int 0), (.ref pa0)]) (K := "java/lang/String") B e39_6 (w51 hw) (w52 hw) (w54 hw) (w54 hw) (w53 hw) (w11 hw) (w55 hw) (hf2).1 (gLen hw G GS o1 hf2 (by simp)) pd21 ?_
 intro vq2 h3 S4 q2 zh3
 obtain ⟨rfl, rfl, rfl⟩ := q2
 refine Ow.Go.nr (S' := []) (st' := [(.int 2), (.int 0), (.ref pa0)]) ?_
 refine Ow.Go.old (fun o5 => ?_)
 refine Ow.callPrivate (pc' := 12) (W := 0) (k' := 0) (n' := 0) (argsL := [(.int 0), (.int 2)]) (rest := []) (K := "com/example/elsewhere/elsewhere/Field$Subfield") B e39_9 (w62 hw) (w63 hw) (w64 hw) (w31 hw) (w32 hw) (w65 hw) hf0 (con_endBeforeSpaces_39 hw G GS (pa0 := pa0) (pa1 := pa1) (pa2 := pa2) (px0 := px0) (px1 := px1) (pk0 := pk0) o5 hf1 hf2 (by omega) (by omega) hc_px0 hc_px1) pd14 ?_
 intro vq6 h7 S8 q6 zh7
 rcases q6 with q6 | q6 | q6
 ·obtain ⟨rfl, rfl, c9, c10, rfl⟩ := q6
  refine Ow.Go.nr (S' := []) (st' := [(.int 0)]) ?_
  refine Ow.istoreN (pc' := 13) (Ls' := #[.val (.ref pa0), .val (.int 0), .unset]) B e39_12 ?_
  refine Ow.aloadN (pc' := 14) B e39_13 ?_
  refine Ow.iconst (pc' := 15) (x := 0) B e39_14 ?_
  refine Ow.iloadN (pc' := 16) B e39_15 ?_
  refine Ow.Go.old (fun o11 => ?_)
  refine Ow.callPrivate (pc' := 19) (W := 0) (k' := 0) (n' := 0) (argsL := [(.int 0), (.int 0)]) (rest := []) (K := "com/example/elsewhere/elsewhere/Field$Subfield") B e39_16 (w66 hw) (w67 hw) (w68 hw) (w31 hw) (w32 hw) (w69 hw) hf0 (con_endBeforeSeparator_19 hw G GS (pa0 := pa0) o11) pd14 ?_
  intro vq12 h13 S14 q12 zh13
  obtain ⟨rfl, rfl, rfl⟩ := q12
  refine Ow.Go.nr (S' := []) (st' := [(.int 0)]) ?_
  refine Ow.istoreN (pc' := 20) (Ls' := #[.val (.ref pa0), .val (.int 0), .val (.int 0)]) B e39_19 ?_
  refine Ow.iloadN (pc' := 21) B e39_20 ?_
  refine Ow.iloadN (pc' := 22) B e39_21 ?_
  refine Ow.icmpF (pc' := 25) B e39_22 (by decide) ?_
  refine Ow.aloadN (pc' := 26) B e39_25 ?_
  refine Ow.getfield (pc' := 29) B e39_26 (w44 hw) Via.refl hf1 ?_
  refine Ow.goto (pc' := 41) B e39_29 ?_
  exact Ow.retA (S' := []) (t := (.object "java/lang/String")) B e39_41 (Or.inl (⟨rfl, rfl, c9, c10, rfl⟩))
 ·obtain ⟨rfl, rfl, c15, c16, rfl⟩ := q6
  refine Ow.Go.nr (S' := []) (st' := [(.int 1)]) ?_
  refine Ow.istoreN (pc' := 13) (Ls' := #[.val (.ref pa0), .val (.int 1), .unset]) B e39_12 ?_
  refine Ow.aloadN (pc' := 14) B e39_13 ?_
  refine Ow.iconst (pc' := 15) (x := 0) B e39_14 ?_
  refine Ow.iloadN (pc' := 16) B e39_15 ?_
  refine Ow.Go.old (fun o17 => ?_)
  refine Ow.callPrivate (pc' := 19) (W := 0) (k' := 2) (n' := 16) (argsL := [(.int 0), (.int 1)]) (rest := []) (K := "com/example/elsewhere/elsewhere/Field$Subfield") B e39_16 (w66 hw) (w67 hw) (w68 hw) (w31 hw) (w32 hw) (w69 hw) hf0 (con_endBeforeSeparator_40 hw G GS (pa0 := pa0) (pa1 := pa1) (pa2 := pa2) (px0 := px0) (px1 := px1) (pk0 := pk0) o17 hf0 hf1 hf2 (by omega) (by omega) (hk0) hc_px0 hc_px1) pd14 ?_
  intro vq18 h19 S20 q18 zh19
  rcases q18 with q18 | q18
  ·obtain ⟨rfl, Kh19, c21, rfl⟩ := q18
   refine Ow.Go.nr (S' := []) (st' := [(.int 1)]) ?_
   refine Ow.istoreN (pc' := 20) (Ls' := #[.val (.ref pa0), .val (.int 1), .val (.int 1)]) B e39_19 ?_
   refine Ow.iloadN (pc' := 21) B e39_20 ?_
   refine Ow.iloadN (pc' := 22) B e39_21 ?_
   refine Ow.icmpF (pc' := 25) B e39_22 (by decide) ?_
   refine Ow.aloadN (pc' := 26) B e39_25 ?_
   have f22 := hf1.keep Kh19 Ow.nin0
   refine Ow.getfield (pc' := 29) B e39_26 (w44 hw) Via.refl f22 ?_
   refine Ow.goto (pc' := 41) B e39_29 ?_
   exact Ow.retA (S' := []) (t := (.object "java/lang/String")) B e39_41 (Or.inr (Or.inl (⟨rfl, ((Keep.refl _ []).trans Kh19 (fun _ q => nomatch q)), c15, c16, c21, rfl⟩)))
  ·obtain ⟨rfl, Kh19, c23, rfl⟩ := q18
   refine Ow.Go.nr (S' := []) (st' := [(.int 0)]) ?_
   refine Ow.istoreN (pc' := 20) (Ls' := #[.val (.ref pa0), .val (.int 1), .val (.int 0)]) B e39_19 ?_
   refine Ow.iloadN (pc' := 21) B e39_20 ?_
   refine Ow.iloadN (pc' := 22) B e39_21 ?_
   refine Ow.icmpT (pc' := 32) B e39_22 (by decide) ?_
   refine Ow.aloadN (pc' := 33) B e39_32 ?_
   have f24 := hf1.keep Kh19 Ow.nin0
   refine Ow.getfield (pc' := 36) B e39_33 (w44 hw) Via.refl f24 ?_
   refine Ow.iconst (pc' := 37) (x := 0) B e39_36 ?_
   refine Ow.iloadN (pc' := 38) B e39_37 ?_
   refine Ow.Go.old (fun o25 => ?_)
   have f26 := hf2.keep Kh19 Ow.nin0 Ow.nin0
   refine Ow.callVirtual (pc' := 41) (W := 0) (k' := 5) (n' := 32) (argsL := [(.int 0), (.int 0)]) (rest := []) (K := "java/lang/String") B e39_38 (w139 hw) (w140 hw) (w142 hw) (w142 hw) (w141 hw) (w11 hw) (w143 hw) (f26).1 (gSub hw G GS (cs := [px0, px1]) (i := 0) (e' := 0) o25 f26 (by decide) (by simp) (Or.inr (Ow.allI (own_seplo (c23)) (Ow.allI (own_seplo0 (c15)) Ow.allI0))) (by simp) (by simp)) pd34 ?_
   intro vq27 h28 S29 q27 zh28
   obtain ⟨r30, t31, k32, rfl, Kh28, f33, rfl⟩ := q27
   have f33 : Ow.Chs Z h28 r30 t31 k32 [] := f33
   have lr30 : (r30 : Nat) < h28.size := f33.lt
   have lt31 : (t31 : Nat) < h28.size := f33.ltt
   refine Ow.Go.nr (S' := []) (st' := [(.ref r30)]) ?_
   exact Ow.retA (S' := []) (t := (.object "java/lang/String")) B e39_41 (Or.inr (Or.inr (Or.inl (⟨r30, t31, k32, rfl, (((Keep.refl _ []).trans Kh19 (fun _ q => nomatch q)).trans Kh28 (fun _ q => nomatch q)), c15, c16, c23, f33, rfl⟩))))
 ·obtain ⟨rfl, rfl, c34, rfl⟩ := q6
  refine Ow.Go.nr (S' := []) (st' := [(.int 2)]) ?_
  refine Ow.istoreN (pc' := 13) (Ls' := #[.val (.ref pa0), .val (.int 2), .unset]) B e39_12 ?_
  refine Ow.aloadN (pc' := 14) B e39_13 ?_
  refine Ow.iconst (pc' := 15) (x := 0) B e39_14 ?_
  refine Ow.iloadN (pc' := 16) B e39_15 ?_
  refine Ow.Go.old (fun o35 => ?_)
  refine Ow.callPrivate (pc' := 19) (W := 0) (k' := 2) (n' := 16) (argsL := [(.int 0), (.int 2)]) (rest := []) (K := "com/example/elsewhere/elsewhere/Field$Subfield") B e39_16 (w66 hw) (w67 hw) (w68 hw) (w31 hw) (w32 hw) (w69 hw) hf0 (con_endBeforeSeparator_42 hw G GS (pa0 := pa0) (pa1 := pa1) (pa2 := pa2) (px0 := px0) (px1 := px1) (pk0 := pk0) o35 hf0 hf1 hf2 (by omega) (by omega) (hk1) hc_px0 hc_px1) pd14 ?_
  intro vq36 h37 S38 q36 zh37
  rcases q36 with q36 | q36 | q36
  ·obtain ⟨rfl, Kh37, c39, rfl⟩ := q36
   refine Ow.Go.nr (S' := []) (st' := [(.int 2)]) ?_
   refine Ow.istoreN (pc' := 20) (Ls' := #[.val (.ref pa0), .val (.int 2), .val (.int 2)]) B e39_19 ?_
   refine Ow.iloadN (pc' := 21) B e39_20 ?_
   refine Ow.iloadN (pc' := 22) B e39_21 ?_
   refine Ow.icmpF (pc' := 25) B e39_22 (by decide) ?_
   refine Ow.aloadN (pc' := 26) B e39_25 ?_
   have f40 := hf1.keep Kh37 Ow.nin0
   refine Ow.getfield (pc' := 29) B e39_26 (w44 hw) Via.refl f40 ?_
   refine Ow.goto (pc' := 41) B e39_29 ?_
   exact Ow.retA (S' := []) (t := (.object "java/lang/String")) B e39_41 (Or.inr (Or.inr (Or.inr (Or.inl (⟨rfl, ((Keep.refl _ []).trans Kh37 (fun _ q => nomatch q)), c34, c39, rfl⟩)))))
  ·obtain ⟨rfl, Kh37, c41, c42, rfl⟩ := q36
   refine Ow.Go.nr (S' := []) (st' := [(.int 0)]) ?_
   refine Ow.istoreN (pc' := 20) (Ls' := #[.val (.ref pa0), .val (.int 2), .val (.int 0)]) B e39_19 ?_
   refine Ow.iloadN (pc' := 21) B e39_20 ?_
   refine Ow.iloadN (pc' := 22) B e39_21 ?_
   refine Ow.icmpT (pc' := 32) B e39_22 (by decide) ?_
   refine Ow.aloadN (pc' := 33) B e39_32 ?_
   have f43 := hf1.keep Kh37 Ow.nin0
   refine Ow.getfield (pc' := 36) B e39_33 (w44 hw) Via.refl f43 ?_
   refine Ow.iconst (pc' := 37) (x := 0) B e39_36 ?_
   refine Ow.iloadN (pc' := 38) B e39_37 ?_
   refine Ow.Go.old (fun o44 => ?_)
   have f45 := hf2.keep Kh37 Ow.nin0 Ow.nin0
   refine Ow.callVirtual (pc' := 41) (W := 0) (k' := 5) (n' := 32) (argsL := [(.int 0), (.int 0)]) (rest := []) (K := "java/lang/String") B e39_38 (w139 hw) (w140 hw) (w142 hw) (w142 hw) (w141 hw) (w11 hw) (w143 hw) (f45).1 (gSub hw G GS (cs := [px0, px1]) (i := 0) (e' := 0) o44 f45 (by decide) (by simp) (Or.inr (Ow.allI (own_seplo0 (c42)) (Ow.allI (own_seplo (c41)) Ow.allI0))) (by simp) (by simp)) pd34 ?_
   intro vq46 h47 S48 q46 zh47
   obtain ⟨r49, t50, k51, rfl, Kh47, f52, rfl⟩ := q46
   have f52 : Ow.Chs Z h47 r49 t50 k51 [] := f52
   have lr49 : (r49 : Nat) < h47.size := f52.lt
   have lt50 : (t50 : Nat) < h47.size := f52.ltt
   refine Ow.Go.nr (S' := []) (st' := [(.ref r49)]) ?_
   exact Ow.retA (S' := []) (t := (.object "java/lang/String")) B e39_41 (Or.inr (Or.inr (Or.inr (Or.inr (Or.inl (⟨r49, t50, k51, rfl, (((Keep.refl _ []).trans Kh37 (fun _ q => nomatch q)).trans Kh47 (fun _ q => nomatch q)), c34, c41, c42, f52, rfl⟩))))))
  ·obtain ⟨rfl, Kh37, c53, c54, rfl⟩ := q36
   refine Ow.Go.nr (S' := []) (st' := [(.int 1)]) ?_
   refine Ow.istoreN (pc' := 20) (Ls' := #[.val (.ref pa0), .val (.int 2), .val (.int 1)]) B e39_19 ?_
   refine Ow.iloadN (pc' := 21) B e39_20 ?_
   refine Ow.iloadN (pc' := 22) B e39_21 ?_
   refine Ow.icmpT (pc' := 32) B e39_22 (by decide) ?_
   refine Ow.aloadN (pc' := 33) B e39_32 ?_
   have f55 := hf1.keep Kh37 Ow.nin0
   refine Ow.getfield (pc' := 36) B e39_33 (w44 hw) Via.refl f55 ?_
   refine Ow.iconst (pc' := 37) (x := 0) B e39_36 ?_
   refine Ow.iloadN (pc' := 38) B e39_37 ?_
   refine Ow.Go.old (fun o56 => ?_)
   have f57 := hf2.keep Kh37 Ow.nin0 Ow.nin0
   refine Ow.callVirtual (pc' := 41) (W := 0) (k' := 5) (n' := 32) (argsL := [(.int 0), (.int 1)]) (rest := []) (K := "java/lang/String") B e39_38 (w139 hw) (w140 hw) (w142 hw) (w142 hw) (w141 hw) (w11 hw) (w143 hw) (f57).1 (gSub hw G GS (cs := [px0, px1]) (i := 0) (e' := 1) o56 f57 (by decide) (by simp) (Or.inl (by decide)) (by simp) (by simp)) pd34 ?_
   intro vq58 h59 S60 q58 zh59
   obtain ⟨r61, t62, k63, rfl, Kh59, f64, rfl⟩ := q58
   have f64 : Ow.Chs Z h59 r61 t62 k63 [px0] := f64
   have lr61 : (r61 : Nat) < h59.size := f64.lt
   have lt62 : (t62 : Nat) < h59.size := f64.ltt
   refine Ow.Go.nr (S' := []) (st' := [(.ref r61)]) ?_
   exact Ow.retA (S' := []) (t := (.object "java/lang/String")) B e39_41 (Or.inr (Or.inr (Or.inr (Or.inr (Or.inr (⟨r61, t62, k63, rfl, (((Keep.refl _ []).trans Kh37 (fun _ q => nomatch q)).trans Kh59 (fun _ q => nomatch q)), c34, c53, c54, f64, rfl⟩))))))
set_option maxRecDepth 65536 in
set_option maxHeartbeats 40000000 in
theorem con_strip_44 (hw : Hw a0 Z) (G : Ow.Glo Z cz sf) (GS : GlS Z) {pa0 : Nat} {px0 : Int32} {px1 : Int32} {px2 : Int32} {px3 : Int32} {pk0 : ClassId} {h0 : Heap} (O0 : Old Z n0 h0) (hf0 : Arv Z h0 pa0 pk0 .char (4 : Int32) [(.int px0), (.int px1), (.int px2), (.int px3)] (.int 0)) (hn0 : n0 ≤ pa0) (hk0 : px1 = (32 : Int32)) (hk1 : px0 = (32 : Int32)) (hc_px0 : nar .char px0 = px0) (hc_px1 : nar .char px1 = px1) (hc_px2 : nar .char px2 = px2) (hc_px3 : nar .char px3 = px3) :
    Ow.Con l Z EL1 n0 my42 method_4_code 3 (Option.some Jvm.ClassFile.FieldType.int) [] ({ frames := 0, cells := 0, slots := 0, locals := 0 } : Room) #[(.ref pa0), (.int 2)] [] h0 (fun v h S' => (v = some (.int 0) ∧ h = h0 ∧ S' = [])) := by
 refine Ow.Con.enter (Ls := #[.val (.ref pa0), .val (.int 2), .unset]) (plainFor_of_name pn5) O0 (hEW hw) (hSA hw) ?_
 intro p e s m below meth c B
 have z0 := Ow.old_le O0
 have lpa0 : (pa0 : Nat) < h0.size := hf0.lt
 refine Ow.iloadN (pc' := 1) B e42_0 ?_
 refine Ow.istoreN (pc' := 2) (Ls' := #[.val (.ref pa0), .val (.int 2), .val (.int 2)]) B e42_1 ?_
 refine Ow.iloadN (pc' := 3) B e42_2 ?_
 refine Ow.ifF (pc' := 6) B e42_3 (by decide) ?_
 refine Ow.aloadN (pc' := 7) B e42_6 ?_
 refine Ow.iloadN (pc' := 8) B e42_7 ?_
 refine Ow.iconst (pc' := 9) (x := 1) B e42_8 ?_
 refine Ow.isub (pc' := 10) (z := 1) B e42_9 ?_
 refine Ow.caload (pc' := 11) B e42_10 hf0 ⟨by decide, by decide⟩ rfl ?_
 refine Ow.bipush (pc' := 13) (x := 32) B e42_11 ?_
 refine Ow.icmpF (pc' := 16) B e42_13 (teq (hk0)).2 ?_
 refine Ow.iinc (pc' := 19) (y := 1) (Ls' := #[.val (.ref pa0), .val (.int 2), .val (.int 1)]) B e42_16 ?_
 refine Ow.iloadN (pc' := 20) B e42_19 ?_
 refine Ow.ifF (pc' := 23) B e42_20 (by decide) ?_
 refine Ow.aloadN (pc' := 24) B e42_23 ?_
 refine Ow.iloadN (pc' := 25) B e42_24 ?_
 refine Ow.iconst (pc' := 26) (x := 1) B e42_25 ?_
 refine Ow.isub (pc' := 27) (z := 0) B e42_26 ?_
 refine Ow.caload (pc' := 28) B e42_27 hf0 ⟨by decide, by decide⟩ rfl ?_
 refine Ow.bipush (pc' := 30) (x := 32) B e42_28 ?_
 refine Ow.icmpF (pc' := 33) B e42_30 (teq (hk1)).2 ?_
 refine Ow.iinc (pc' := 36) (y := 0) (Ls' := #[.val (.ref pa0), .val (.int 2), .val (.int 0)]) B e42_33 ?_
 refine Ow.iloadN (pc' := 37) B e42_36 ?_
 refine Ow.ifT (pc' := 53) B e42_37 (by decide) ?_
 refine Ow.iloadN (pc' := 54) B e42_53 ?_
 refine Ow.ifT (pc' := 70) B e42_54 (by decide) ?_
 refine Ow.iloadN (pc' := 71) B e42_70 ?_
 exact Ow.retI (S' := []) (t := .int) B e42_71 (⟨rfl, rfl, rfl⟩)
set_option maxRecDepth 65536 in
set_option maxHeartbeats 40000000 in
theorem con_strip_45 (hw : Hw a0 Z) (G : Ow.Glo Z cz sf) (GS : GlS Z) {pa0 : Nat} {px0 : Int32} {px1 : Int32} {px2 : Int32} {px3 : Int32} {pk0 : ClassId} {h0 : Heap} (O0 : Old Z n0 h0) (hf0 : Arv Z h0 pa0 pk0 .char (4 : Int32) [(.int px0), (.int px1), (.int px2), (.int px3)] (.int 0)) (hn0 : n0 ≤ pa0) (hk0 : px1 = (32 : Int32)) (hk1 : ¬ (px0 = (32 : Int32))) (hc_px0 : nar .char px0 = px0) (hc_px1 : nar .char px1 = px1) (hc_px2 : nar .char px2 = px2) (hc_px3 : nar .char px3 = px3) :
    Ow.Con l Z EL1 n0 my42 method_4_code 3 (Option.some Jvm.ClassFile.FieldType.int) [] ({ frames := 0, cells := 0, slots := 0, locals := 0 } : Room) #[(.ref pa0), (.int 2)] [] h0 (fun v h S' => (v = some (.int 1) ∧ h = h0 ∧ S' = [])) := by
 refine Ow.Con.enter (Ls := #[.val (.ref pa0), .val (.int 2), .unset]) (plainFor_of_name pn5) O0 (hEW hw) (hSA hw) ?_
 intro p e s m below meth c B
 have z0 := Ow.old_le O0
 have lpa0 : (pa0 : Nat) < h0.size := hf0.lt
 refine Ow.iloadN (pc' := 1) B e42_0 ?_
 refine Ow.istoreN (pc' := 2) (Ls' := #[.val (.ref pa0), .val (.int 2), .val (.int 2)]) B e42_1 ?_
 refine Ow.iloadN (pc' := 3) B e42_2 ?_
 refine Ow.ifF (pc' := 6) B e42_3 (by decide) ?_
 refine Ow.aloadN (pc' := 7) B e42_6 ?_
 refine Ow.iloadN (pc' := 8) B e42_7 ?_
 refine Ow.iconst (pc' := 9) (x := 1) B e42_8 ?_
 refine Ow.isub (pc' := 10) (z := 1) B e42_9 ?_
 refine Ow.caload (pc' := 11) B e42_10 hf0 ⟨by decide, by decide⟩ rfl ?_
 refine Ow.bipush (pc' := 13) (x := 32) B e42_11 ?_
 refine Ow.icmpF (pc' := 16) B e42_13 (teq (hk0)).2 ?_
 refine Ow.iinc (pc' := 19) (y := 1) (Ls' := #[.val (.ref pa0), .val (.int 2), .val (.int 1)]) B e42_16 ?_
 refine Ow.iloadN (pc' := 20) B e42_19 ?_
 refine Ow.ifF (pc' := 23) B e42_20 (by decide) ?_
 refine Ow.aloadN (pc' := 24) B e42_23 ?_
 refine Ow.iloadN (pc' := 25) B e42_24 ?_
 refine Ow.iconst (pc' := 26) (x := 1) B e42_25 ?_
 refine Ow.isub (pc' := 27) (z := 0) B e42_26 ?_
 refine Ow.caload (pc' := 28) B e42_27 hf0 ⟨by decide, by decide⟩ rfl ?_
 refine Ow.bipush (pc' := 30) (x := 32) B e42_28 ?_
 refine Ow.icmpT (pc' := 36) B e42_30 (feq (hk1)).2 ?_
 refine Ow.iloadN (pc' := 37) B e42_36 ?_
 refine Ow.ifF (pc' := 40) B e42_37 (by decide) ?_
 refine Ow.aloadN (pc' := 41) B e42_40 ?_
 refine Ow.iloadN (pc' := 42) B e42_41 ?_
 refine Ow.iconst (pc' := 43) (x := 1) B e42_42 ?_
 refine Ow.isub (pc' := 44) (z := 0) B e42_43 ?_
 refine Ow.caload (pc' := 45) B e42_44 hf0 ⟨by decide, by decide⟩ rfl ?_
 refine Ow.bipush (pc' := 47) (x := 32) B e42_45 ?_
 refine Ow.icmpT (pc' := 53) B e42_47 (feq (hk1)).2 ?_
 refine Ow.iloadN (pc' := 54) B e42_53 ?_
 refine Ow.ifF (pc' := 57) B e42_54 (by decide) ?_
 refine Ow.aloadN (pc' := 58) B e42_57 ?_
 refine Ow.iloadN (pc' := 59) B e42_58 ?_
 refine Ow.iconst (pc' := 60) (x := 1) B e42_59 ?_
 refine Ow.isub (pc' := 61) (z := 0) B e42_60 ?_
 refine Ow.caload (pc' := 62) B e42_61 hf0 ⟨by decide, by decide⟩ rfl ?_
 refine Ow.bipush (pc' := 64) (x := 32) B e42_62 ?_
 refine Ow.icmpT (pc' := 70) B e42_64 (feq (hk1)).2 ?_
 refine Ow.iloadN (pc' := 71) B e42_70 ?_
 exact Ow.retI (S' := []) (t := .int) B e42_71 (⟨rfl, rfl, rfl⟩)
set_option maxRecDepth 65536 in
set_option maxHeartbeats 40000000 in
theorem con_strip_46 (hw : Hw a0 Z) (G : Ow.Glo Z cz sf) (GS : GlS Z) {pa0 : Nat} {px0 : Int32} {px1 : Int32} {px2 : Int32} {px3 : Int32} {pk0 : ClassId} {h0 : Heap} (O0 : Old Z n0 h0) (hf0 : Arv Z h0 pa0 pk0 .char (4 : Int32) [(.int px0), (.int px1), (.int px2), (.int px3)] (.int 0)) (hn0 : n0 ≤ pa0) (hk0 : ¬ (px1 = (32 : Int32))) (hc_px0 : nar .char px0 = px0) (hc_px1 : nar .char px1 = px1) (hc_px2 : nar .char px2 = px2) (hc_px3 : nar .char px3 = px3) :
    Ow.Con l Z EL1 n0 my42 method_4_code 3 (Option.some Jvm.ClassFile.FieldType.int) [] ({ frames := 0, cells := 0, slots := 0, locals := 0 } : Room) #[(.ref pa0), (.int 2)] [] h0 (fun v h S' => (v = some (.int 2) ∧ h = h0 ∧ S' = [])) := by
 refine Ow.Con.enter (Ls := #[.val (.ref pa0), .val (.int 2), .unset]) (plainFor_of_name pn5) O0 (hEW hw) (hSA hw) ?_
 intro p e s m below meth c B
 have z0 := Ow.old_le O0
 have lpa0 : (pa0 : Nat) < h0.size := hf0.lt
 refine Ow.iloadN (pc' := 1) B e42_0 ?_
 refine Ow.istoreN (pc' := 2) (Ls' := #[.val (.ref pa0), .val (.int 2), .val (.int 2)]) B e42_1 ?_
 refine Ow.iloadN (pc' := 3) B e42_2 ?_
 refine Ow.ifF (pc' := 6) B e42_3 (by decide) ?_
 refine Ow.aloadN (pc' := 7) B e42_6 ?_
 refine Ow.iloadN (pc' := 8) B e42_7 ?_
 refine Ow.iconst (pc' := 9) (x := 1) B e42_8 ?_
 refine Ow.isub (pc' := 10) (z := 1) B e42_9 ?_
 refine Ow.caload (pc' := 11) B e42_10 hf0 ⟨by decide, by decide⟩ rfl ?_
 refine Ow.bipush (pc' := 13) (x := 32) B e42_11 ?_
 refine Ow.icmpT (pc' := 19) B e42_13 (feq (hk0)).2 ?_
 refine Ow.iloadN (pc' := 20) B e42_19 ?_
 refine Ow.ifF (pc' := 23) B e42_20 (by decide) ?_
 refine Ow.aloadN (pc' := 24) B e42_23 ?_
 refine Ow.iloadN (pc' := 25) B e42_24 ?_
 refine Ow.iconst (pc' := 26) (x := 1) B e42_25 ?_
 refine Ow.isub (pc' := 27) (z := 1) B e42_26 ?_
 refine Ow.caload (pc' := 28) B e42_27 hf0 ⟨by decide, by decide⟩ rfl ?_
 refine Ow.bipush (pc' := 30) (x := 32) B e42_28 ?_
 refine Ow.icmpT (pc' := 36) B e42_30 (feq (hk0)).2 ?_
 refine Ow.iloadN (pc' := 37) B e42_36 ?_
 refine Ow.ifF (pc' := 40) B e42_37 (by decide) ?_
 refine Ow.aloadN (pc' := 41) B e42_40 ?_
 refine Ow.iloadN (pc' := 42) B e42_41 ?_
 refine Ow.iconst (pc' := 43) (x := 1) B e42_42 ?_
 refine Ow.isub (pc' := 44) (z := 1) B e42_43 ?_
 refine Ow.caload (pc' := 45) B e42_44 hf0 ⟨by decide, by decide⟩ rfl ?_
 refine Ow.bipush (pc' := 47) (x := 32) B e42_45 ?_
 refine Ow.icmpT (pc' := 53) B e42_47 (feq (hk0)).2 ?_
 refine Ow.iloadN (pc' := 54) B e42_53 ?_
 refine Ow.ifF (pc' := 57) B e42_54 (by decide) ?_
 refine Ow.aloadN (pc' := 58) B e42_57 ?_
 refine Ow.iloadN (pc' := 59) B e42_58 ?_
 refine Ow.iconst (pc' := 60) (x := 1) B e42_59 ?_
 refine Ow.isub (pc' := 61) (z := 1) B e42_60 ?_
 refine Ow.caload (pc' := 62) B e42_61 hf0 ⟨by decide, by decide⟩ rfl ?_
 refine Ow.bipush (pc' := 64) (x := 32) B e42_62 ?_
 refine Ow.icmpT (pc' := 70) B e42_64 (feq (hk0)).2 ?_
 refine Ow.iloadN (pc' := 71) B e42_70 ?_
 exact Ow.retI (S' := []) (t := .int) B e42_71 (⟨rfl, rfl, rfl⟩)
set_option maxRecDepth 65536 in
set_option maxHeartbeats 40000000 in
theorem con_prefixEq_47 (hw : Hw a0 Z) (G : Ow.Glo Z cz sf) (GS : GlS Z) {pa0 : Nat} {pa1 : Nat} {pa2 : Nat} {px0 : Int32} {px1 : Int32} {px2 : Int32} {px3 : Int32} {pk0 : ClassId} {pk1 : ClassId} {h0 : Heap} (O0 : Old Z n0 h0) (hf0 : Ow.Chs Z h0 pa0 pa2 pk0 [px0]) (hf1 : Arv Z h0 pa1 pk1 .char (4 : Int32) [(.int px0), (.int px1), (.int px2), (.int px3)] (.int 0)) (hn1 : n0 ≤ pa1) (hc_px0 : nar .char px0 = px0) (hc_px1 : nar .char px1 = px1) (hc_px2 : nar .char px2 = px2) (hc_px3 : nar .char px3 = px3) :
    Ow.Con l Z EL1 n0 my50 method_5_code 3 (Option.some Jvm.ClassFile.FieldType.boolean) [] ({ frames := 5, cells := 0, slots := 0, locals := 66 } : Room) #[(.ref pa0), (.ref pa1), (.int 1)] [] h0 (fun v h S' => (v = some (.int 1) ∧ h = h0 ∧ S' = [])) := by
 refine Ow.Con.enter (Ls := #[.val (.ref pa0), .val (.ref pa1), .val (.int 1)]) (plainFor_of_name pn5) O0 (hEW hw) (hSA hw) ?_
 intro p e s m below meth c B
 have z0 := Ow.old_le O0
 have lpa0 : (pa0 : Nat) < h0.size := hf0.lt
 have lpa1 : (pa1 : Nat) < h0.size := hf1.lt
 have lpa2 : (pa2 : Nat) < h0.size := hf0.ltt
 refine Ow.iloadN (pc' := 1) B e50_0 ?_
 refine Ow.iconst (pc' := 2) (x := 1) B e50_1 ?_
 refine Ow.icmpF (pc' := 5) B e50_2 (by decide) ?_
 refine Ow.aloadN (pc' := 6) B e50_5 ?_
 refine Ow.iconst (pc' := 7) (x := 0) B e50_6 ?_
 refine Ow.Go.old (fun o1 => ?_)
 refine Ow.callVirtual (pc' := 10) (W := 0) (k' := 0) (n' := 0) (argsL := [(.int 0)]) (rest := []) (K := "java/lang/String") B e50_7 (w176 hw) (w90 hw) (w92 hw) (w92 hw) (w91 hw) (w11 hw) (w93 hw) (hf0).1 (gCha hw G GS (j := 0) (x := px0) o1 hf0 rfl (by simp)) pd24 ?_
 intro vq2 h3 S4 q2 zh3
 obtain ⟨rfl, rfl, rfl⟩ := q2
 refine Ow.Go.nr (S' := []) (st' := [(.int px0)]) ?_
 refine Ow.aloadN (pc' := 11) B e50_10 ?_
 refine Ow.iconst (pc' := 12) (x := 0) B e50_11 ?_
 refine Ow.caload (pc' := 13) B e50_12 hf1 ⟨by decide, by decide⟩ rfl ?_
 refine Ow.icmpF (pc' := 16) B e50_13 (teq (rfl)).2 ?_
 refine Ow.iloadN (pc' := 17) B e50_16 ?_
 refine Ow.iconst (pc' := 18) (x := 2) B e50_17 ?_
 refine Ow.icmpT (pc' := 32) B e50_18 (by decide) ?_
 refine Ow.iloadN (pc' := 33) B e50_32 ?_
 refine Ow.iconst (pc' := 34) (x := 3) B e50_33 ?_
 refine Ow.icmpT (pc' := 48) B e50_34 (by decide) ?_
 refine Ow.iloadN (pc' := 49) B e50_48 ?_
 refine Ow.iconst (pc' := 50) (x := 4) B e50_49 ?_
 refine Ow.icmpT (pc' := 64) B e50_50 (by decide) ?_
 refine Ow.iconst (pc' := 65) (x := 1) B e50_64 ?_
 refine Ow.goto (pc' := 69) B e50_65 ?_
 exact Ow.retI (S' := []) (t := .boolean) B e50_69 (⟨rfl, rfl, rfl⟩)
set_option maxRecDepth 65536 in
set_option maxHeartbeats 40000000 in
theorem con_str_48 (hw : Hw a0 Z) (G : Ow.Glo Z cz sf) (GS : GlS Z) {pa0 : Nat} {px0 : Int32} {px1 : Int32} {px2 : Int32} {px3 : Int32} {pk0 : ClassId} {h0 : Heap} (O0 : Old Z n0 h0) (hf0 : Arv Z h0 pa0 pk0 .char (4 : Int32) [(.int px0), (.int px1), (.int px2), (.int px3)] (.int 0)) (hn0 : n0 ≤ pa0) (hk0 : ¬ (px0 < (0 : Int32))) (hk1 : ¬ ((65535 : Int32) < px0)) (hk2 : ¬ (px1 < (0 : Int32))) (hk3 : ¬ ((65535 : Int32) < px1)) (hk4 : ¬ (px2 < (0 : Int32))) (hk5 : ¬ ((65535 : Int32) < px2)) (hc_px0 : nar .char px0 = px0) (hc_px1 : nar .char px1 = px1) (hc_px2 : nar .char px2 = px2) (hc_px3 : nar .char px3 = px3) :
    Ow.Con l Z EL1 n0 my36 method_3_code 2 (Option.some (Jvm.ClassFile.FieldType.object "java/lang/String")) [] ({ frames := 6, cells := 6, slots := 19, locals := 88 } : Room) #[(.int 3), (.ref pa0)] [] h0 (fun v h S' => (∃ r0 : Nat, ∃ r1 : Nat, ∃ k0 : ClassId, v = some (.ref r0) ∧ Keep h0 h [] ∧ h0.size ≤ r0 ∧ Ow.Chs Z h r0 r1 k0 [px0, px1, px2] ∧ S' = [])) := by
 refine Ow.Con.enter (Ls := #[.val (.int 3), .val (.ref pa0)]) (plainFor_of_name pn5) O0 (hEW hw) (hSA hw) ?_
 intro p e s m below meth c B
 have z0 := Ow.old_le O0
 have lpa0 : (pa0 : Nat) < h0.size := hf0.lt
 refine Ow.iloadN (pc' := 1) B e36_0 ?_
 refine Ow.ifT (pc' := 15) B e36_1 (by decide) ?_
 refine Ow.iloadN (pc' := 16) B e36_15 ?_
 refine Ow.iconst (pc' := 17) (x := 1) B e36_16 ?_
 refine Ow.icmpT (pc' := 37) B e36_17 (by decide) ?_
 refine Ow.iloadN (pc' := 38) B e36_37 ?_
 refine Ow.iconst (pc' := 39) (x := 2) B e36_38 ?_
 refine Ow.icmpT (pc' := 65) B e36_39 (by decide) ?_
 refine Ow.iloadN (pc' := 66) B e36_65 ?_
 refine Ow.iconst (pc' := 67) (x := 3) B e36_66 ?_
 refine Ow.icmpF (pc' := 70) B e36_67 (by decide) ?_
 refine Ow.newObj (pc' := 73) (k' := 1) (n' := 4) B e36_70 (w9 hw) (w10 hw) (w11 hw) ?_
 intro h2 a1 ga1 ba1 Kh2 Aa1 Da1
 have zh2 := Kh2.1
 have la1 : (a1 : Nat) < h2.size := Aa1.lt
 have f3 : Fld Z h2 a1 "java/lang/String" "value" "[B" .null := Da1 (Or.inr (w24 hw)) (ty := (.array .byte)) (by decide)
 have f4 : Fld Z h2 a1 "java/lang/String" "coder" "B" (.int 0) := Da1 (Or.inr (w25 hw)) (ty := .byte) (by decide)
 refine Ow.dup (pc' := 74) B e36_73 ?_
 refine Ow.iconst (pc' := 75) (x := 3) B e36_74 ?_
 refine Ow.newArr (pc' := 77) (k' := 2) (n' := 7) (cap := 3) B e36_75 (w1 hw) (by decide) (by decide) ?_
 intro h6 a5 ka5 ga5 ba5 Kh6 V0a5
 have zh6 := Kh6.1
 have la5 : (a5 : Nat) < h6.size := V0a5.lt
 have Va5 : Arv Z h6 a5 ka5 .char (3 : Int32) [(.int 0), (.int 0), (.int 0)] (.int 0) := V0a5.pad (pad_rep [] (.int 0) 3)
 refine Ow.dup (pc' := 78) B e36_77 ?_
 refine Ow.iconst (pc' := 79) (x := 0) B e36_78 ?_
 refine Ow.aloadN (pc' := 80) B e36_79 ?_
 refine Ow.iconst (pc' := 81) (x := 0) B e36_80 ?_
 have f7 := hf0.keep Kh2 Ow.nin0
 have f8 := f7.keep Kh6 Ow.nin0
 refine Ow.caload (pc' := 82) B e36_81 f8 ⟨by decide, by decide⟩ rfl ?_
 refine Ow.castore (pc' := 83) (i := 0) B e36_82 Va5 ⟨by decide, by decide⟩ ?_
 intro h9 Kh9 V0h9
 have zh9 := Kh9.1
 have V10 : Arv Z h9 a5 ka5 .char (3 : Int32) [(.int px0), (.int 0), (.int 0)] (.int 0) := (by have e0 := V0h9; rw [show nar .char px0 = px0 from hc_px0] at e0; exact e0)
 refine Ow.dup (pc' := 84) B e36_83 ?_
 refine Ow.iconst (pc' := 85) (x := 1) B e36_84 ?_
 refine Ow.aloadN (pc' := 86) B e36_85 ?_
 refine Ow.iconst (pc' := 87) (x := 1) B e36_86 ?_
 have f11 := f8.keep Kh9 (Ow.ninS (by omega) Ow.nin0)
 refine Ow.caload (pc' := 88) B e36_87 f11 ⟨by decide, by decide⟩ rfl ?_
 refine Ow.castore (pc' := 89) (i := 1) B e36_88 V10 ⟨by decide, by decide⟩ ?_
 intro h12 Kh12 V0h12
 have zh12 := Kh12.1
 have V13 : Arv Z h12 a5 ka5 .char (3 : Int32) [(.int px0), (.int px1), (.int 0)] (.int 0) := (by have e0 := V0h12; rw [show nar .char px1 = px1 from hc_px1] at e0; exact e0)
 refine Ow.dup (pc' := 90) B e36_89 ?_
 refine Ow.iconst (pc' := 91) (x := 2) B e36_90 ?_
 refine Ow.aloadN (pc' := 92) B e36_91 ?_
 refine Ow.iconst (pc' := 93) (x := 2) B e36_92 ?_
 have f14 := f11.keep Kh12 (Ow.ninS (by omega) Ow.nin0)
 refine Ow.caload (pc' := 94) B e36_93 f14 ⟨by decide, by decide⟩ rfl ?_
 refine Ow.castore (pc' := 95) (i := 2) B e36_94 V13 ⟨by decide, by decide⟩ ?_
 intro h15 Kh15 V0h15
 have zh15 := Kh15.1
 have V16 : Arv Z h15 a5 ka5 .char (3 : Int32) [(.int px0), (.int px1), (.int px2)] (.int 0) := (by have e0 := V0h15; rw [show nar .char px2 = px2 from hc_px2] at e0; exact e0)
 have f17 := Aa1.keep Kh6
 have f18 := f17.keep Kh9
 have f19 := f18.keep Kh12
 have f20 := f19.keep Kh15
 have f21 := f3.keep Kh6 Ow.nin0
 have f22 := f21.keep Kh9 (Ow.ninS (by omega) Ow.nin0)
 have f23 := f22.keep Kh12 (Ow.ninS (by omega) Ow.nin0)
 have f24 := f23.keep Kh15 (Ow.ninS (by omega) Ow.nin0)
 have f25 := f4.keep Kh6 Ow.nin0
 have f26 := f25.keep Kh9 (Ow.ninS (by omega) Ow.nin0)
 have f27 := f26.keep Kh12 (Ow.ninS (by omega) Ow.nin0)
 have f28 := f27.keep Kh15 (Ow.ninS (by omega) Ow.nin0)
 refine Ow.Go.old (fun o29 => ?_)
 refine Ow.callInit (pc' := 98) (W := 1) (k' := 6) (n' := 19) (argsL := [(.ref a5)]) (rest := [(.ref a1)]) B e36_95 (w12 hw) (w13 hw) (w11 hw) (w14 hw) (gIni hw G GS (cs := [px0, px1, px2]) o29 V16 f20 f24 f28 (by omega) (by omega) (Ow.allI ⟨hk0, hk1⟩ (Ow.allI ⟨hk2, hk3⟩ (Ow.allI ⟨hk4, hk5⟩ Ow.allI0))) (by simp) (by simp)) pd25 ?_
 intro vq30 h31 S32 q30 zh31
 obtain ⟨t33, k34, rfl, Kh31, f35, rfl⟩ := q30
 have lt33 : (t33 : Nat) < h31.size := f35.ltt
 refine Ow.Go.nr (S' := [a5, a1]) (st' := [(.ref a1)]) ?_
 exact Ow.retA (S' := []) (t := (.object "java/lang/String")) B e36_98 (⟨a1, t33, k34, rfl, (((((((Keep.refl _ []).trans Kh2 (fun _ q => nomatch q)).trans Kh6 (fun _ q => nomatch q)).trans Kh9 (allS (Or.inr (by omega)) all0)).trans Kh12 (allS (Or.inr (by omega)) all0)).trans Kh15 (allS (Or.inr (by omega)) all0)).trans Kh31 (allS (Or.inr (by omega)) all0)), (by omega), f35, rfl⟩)
set_option maxRecDepth 65536 in
set_option maxHeartbeats 40000000 in
theorem con_endBeforeSpaces_49 (hw : Hw a0 Z) (G : Ow.Glo Z cz sf) (GS : GlS Z) {pa0 : Nat} {pa1 : Nat} {pa2 : Nat} {px0 : Int32} {px1 : Int32} {px2 : Int32} {pk0 : ClassId} {h0 : Heap} (O0 : Old Z n0 h0) (hf0 : Fld Z h0 pa0 "com/example/elsewhere/elsewhere/Field$Subfield" "value" "Ljava/lang/String;" (.ref pa1)) (hf1 : Ow.Chs Z h0 pa1 pa2 pk0 [px0, px1, px2]) (hn0 : n0 ≤ pa0) (hn1 : n0 ≤ pa1) (hc_px0 : nar .char px0 = px0) (hc_px1 : nar .char px1 = px1) (hc_px2 : nar .char px2 = px2) :
    Ow.Con l Z EL1 n0 my39 prog_11_method_5_code 4 (Option.some Jvm.ClassFile.FieldType.int) [] ({ frames := 5, cells := 0, slots := 0, locals := 66 } : Room) #[(.ref pa0), (.int 0), (.int 3)] [] h0 (fun v h S' => (v = some (.int 0) ∧ h = h0 ∧ px2 = (32 : Int32) ∧ px1 = (32 : Int32) ∧ px0 = (32 : Int32) ∧ S' = []) ∨ (v = some (.int 1) ∧ h = h0 ∧ px2 = (32 : Int32) ∧ px1 = (32 : Int32) ∧ ¬ (px0 = (32 : Int32)) ∧ S' = []) ∨ (v = some (.int 2) ∧ h = h0 ∧ px2 = (32 : Int32) ∧ ¬ (px1 = (32 : Int32)) ∧ S' = []) ∨ (v = some (.int 3) ∧ h = h0 ∧ ¬ (px2 = (32 : Int32)) ∧ S' = [])) := by
 refine Ow.Con.enter (Ls := #[.val (.ref pa0), .val (.int 0), .val (.int 3), .unset]) (plainFor_of_name pn6) O0 (hEW hw) (hSA hw) ?_
 intro p e s m below meth c B
 have z0 := Ow.old_le O0
 have lpa0 : (pa0 : Nat) < h0.size := hf0.lt
 have lpa1 : (pa1 : Nat) < h0.size := hf1.lt
 have lpa2 : (pa2 : Nat) < h0.size := hf1.ltt
 refine Ow.iloadN (pc' := 1) B e40_0 ?_
 refine Ow.istoreN (pc' := 2) (Ls' := #[.val (.ref pa0), .val (.int 0), .val (.int 3), .val (.int 3)]) B e40_1 ?_
 refine Ow.iloadN (pc' := 3) B e40_2 ?_
 refine Ow.iloadN (pc' := 4) B e40_3 ?_
 refine Ow.icmpF (pc' := 7) B e40_4 (by decide) ?_
 refine Ow.aloadN (pc' := 8) B e40_7 ?_
 refine Ow.getfield (pc' := 11) B e40_8 (w44 hw) Via.refl hf0 ?_
 refine Ow.iloadN (pc' := 12) B e40_11 ?_
 refine Ow.iconst (pc' := 13) (x := 1) B e40_12 ?_
 refine Ow.isub (pc' := 14) (z := 2) B e40_13 ?_
 refine Ow.Go.old (fun o1 => ?_)
 refine Ow.callVirtual (pc' := 17) (W := 0) (k' := 0) (n' := 0) (argsL := [(.int 2)]) (rest := []) (K := "java/lang/String") B e40_14 (w89 hw) (w90 hw) (w92 hw) (w92 hw) (w91 hw) (w11 hw) (w93 hw) (hf1).1 (gCha hw G GS (j := 2) (x := px2) o1 hf1 rfl (by simp)) pd24 ?_
 intro vq2 h3 S4 q2 zh3
 obtain ⟨rfl, rfl, rfl⟩ := q2
 refine Ow.Go.nr (S' := []) (st' := [(.int px2)]) ?_
 refine Ow.bipush (pc' := 19) (x := 32) B e40_17 ?_
 by_cases c5 : px2 = (32 : Int32)
 ·refine Ow.icmpF (pc' := 22) B e40_19 (teq c5).2 ?_
  refine Ow.iinc (pc' := 25) (y := 2) (Ls' := #[.val (.ref pa0), .val (.int 0), .val (.int 3), .val (.int 2)]) B e40_22 ?_
  refine Ow.goto (pc' := 2) B e40_25 ?_
  refine Ow.iloadN (pc' := 3) B e40_2 ?_
  refine Ow.iloadN (pc' := 4) B e40_3 ?_
  refine Ow.icmpF (pc' := 7) B e40_4 (by decide) ?_
  refine Ow.aloadN (pc' := 8) B e40_7 ?_
  refine Ow.getfield (pc' := 11) B e40_8 (w44 hw) Via.refl hf0 ?_
  refine Ow.iloadN (pc' := 12) B e40_11 ?_
  refine Ow.iconst (pc' := 13) (x := 1) B e40_12 ?_
  refine Ow.isub (pc' := 14) (z := 1) B e40_13 ?_
  refine Ow.Go.old (fun o6 => ?_)
  refine Ow.callVirtual (pc' := 17) (W := 0) (k' := 0) (n' := 0) (argsL := [(.int 1)]) (rest := []) (K := "java/lang/String") B e40_14 (w89 hw) (w90 hw) (w92 hw) (w92 hw) (w91 hw) (w11 hw) (w93 hw) (hf1).1 (gCha hw G GS (j := 1) (x := px1) o6 hf1 rfl (by simp)) pd24 ?_
  intro vq7 h8 S9 q7 zh8
  obtain ⟨rfl, rfl, rfl⟩ := q7
  refine Ow.Go.nr (S' := []) (st' := [(.int px1)]) ?_
  refine Ow.bipush (pc' := 19) (x := 32) B e40_17 ?_
  by_cases c10 : px1 = (32 : Int32)
  ·refine Ow.icmpF (pc' := 22) B e40_19 (teq c10).2 ?_
   refine Ow.iinc (pc' := 25) (y := 1) (Ls' := #[.val (.ref pa0), .val (.int 0), .val (.int 3), .val (.int 1)]) B e40_22 ?_
   refine Ow.goto (pc' := 2) B e40_25 ?_
   refine Ow.iloadN (pc' := 3) B e40_2 ?_
   refine Ow.iloadN (pc' := 4) B e40_3 ?_
   refine Ow.icmpF (pc' := 7) B e40_4 (by decide) ?_
   refine Ow.aloadN (pc' := 8) B e40_7 ?_
   refine Ow.getfield (pc' := 11) B e40_8 (w44 hw) Via.refl hf0 ?_
   refine Ow.iloadN (pc' := 12) B e40_11 ?_
   refine Ow.iconst (pc' := 13) (x := 1) B e40_12 ?_
   refine Ow.isub (pc' := 14) (z := 0) B e40_13 ?_
   refine Ow.Go.old (fun o11 => ?_)
   refine Ow.callVirtual (pc' := 17) (W := 0) (k' := 0) (n' := 0) (argsL := [(.int 0)]) (rest := []) (K := "java/lang/String") B e40_14 (w89 hw) (w90 hw) (w92 hw) (w92 hw) (w91 hw) (w11 hw) (w93 hw) (hf1).1 (gCha hw G GS (j := 0) (x := px0) o11 hf1 rfl (by simp)) pd24 ?_
   intro vq12 h13 S14 q12 zh13
   obtain ⟨rfl, rfl, rfl⟩ := q12
   refine Ow.Go.nr (S' := []) (st' := [(.int px0)]) ?_
   refine Ow.bipush (pc' := 19) (x := 32) B e40_17 ?_
   by_cases c15 : px0 = (32 : Int32)
   ·refine Ow.icmpF (pc' := 22) B e40_19 (teq c15).2 ?_
    refine Ow.iinc (pc' := 25) (y := 0) (Ls' := #[.val (.ref pa0), .val (.int 0), .val (.int 3), .val (.int 0)]) B e40_22 ?_
    refine Ow.goto (pc' := 2) B e40_25 ?_
    refine Ow.iloadN (pc' := 3) B e40_2 ?_
    refine Ow.iloadN (pc' := 4) B e40_3 ?_
    refine Ow.icmpT (pc' := 28) B e40_4 (by decide) ?_
    refine Ow.iloadN (pc' := 29) B e40_28 ?_
    exact Ow.retI (S' := []) (t := .int) B e40_29 (Or.inl (⟨rfl, rfl, c5, c10, c15, rfl⟩))
   ·refine Ow.icmpT (pc' := 28) B e40_19 (feq c15).2 ?_
    refine Ow.iloadN (pc' := 29) B e40_28 ?_
    exact Ow.retI (S' := []) (t := .int) B e40_29 (Or.inr (Or.inl (⟨rfl, rfl, c5, c10, c15, rfl⟩)))
  ·refine Ow.icmpT (pc' := 28) B e40_19 (feq c10).2 ?_
   refine Ow.iloadN (pc' := 29) B e40_28 ?_
   exact Ow.retI (S' := []) (t := .int) B e40_29 (Or.inr (Or.inr (Or.inl (⟨rfl, rfl, c5, c10, rfl⟩))))
 ·refine Ow.icmpT (pc' := 28) B e40_19 (feq c5).2 ?_
  refine Ow.iloadN (pc' := 29) B e40_28 ?_
  exact Ow.retI (S' := []) (t := .int) B e40_29 (Or.inr (Or.inr (Or.inr (⟨rfl, rfl, c5, rfl⟩))))
set_option maxRecDepth 65536 in
set_option maxHeartbeats 40000000 in
theorem con_endBeforeSeparator_50 (hw : Hw a0 Z) (G : Ow.Glo Z cz sf) (GS : GlS Z) {pa0 : Nat} {pa1 : Nat} {pa2 : Nat} {px0 : Int32} {px1 : Int32} {px2 : Int32} {pk0 : ClassId} {h0 : Heap} (O0 : Old Z n0 h0) (hf0 : Exa Z h0 pa0 "com/example/elsewhere/elsewhere/Field$Subfield") (hf1 : Fld Z h0 pa0 "com/example/elsewhere/elsewhere/Field$Subfield" "value" "Ljava/lang/String;" (.ref pa1)) (hf2 : Ow.Chs Z h0 pa1 pa2 pk0 [px0, px1, px2]) (hn0 : n0 ≤ pa0) (hn1 : n0 ≤ pa1) (hk0 : ¬ (px0 < (0 : Int32))) (hc_px0 : nar .char px0 = px0) (hc_px1 : nar .char px1 = px1) (hc_px2 : nar .char px2 = px2) :
    Ow.Con l Z EL1 n0 my40 prog_11_method_4_code 3 (Option.some Jvm.ClassFile.FieldType.int) [] ({ frames := 5, cells := 2, slots := 16, locals := 67 } : Room) #[(.ref pa0), (.int 0), (.int 1)] [] h0 (fun v h S' => (v = some (.int 1) ∧ Keep h0 h [] ∧ ¬ (sepP px0) ∧ S' = []) ∨ (v = some (.int 0) ∧ Keep h0 h [] ∧ sepP px0 ∧ S' = [])) := by
 refine Ow.Con.enter (Ls := #[.val (.ref pa0), .val (.int 0), .val (.int 1)]) (plainFor_of_name pn6) O0 (hEW hw) (hSA hw) ?_
 intro p e s m below meth c B
 have z0 := Ow.old_le O0
 have lpa0 : (pa0 : Nat) < h0.size := hf0.lt
 have lpa1 : (pa1 : Nat) < h0.size := hf2.lt
 have lpa2 : (pa2 : Nat) < h0.size := hf2.ltt
 refine Ow.iloadN (pc' := 1) B e41_0 ?_
 refine Ow.iloadN (pc' := 2) B e41_1 ?_
 refine Ow.icmpF (pc' := 5) B e41_2 (by decide) ?_
 refine Ow.ldcText (pc' := 7) (k' := 2) (n' := 16) (nn := 12) (vs := [(.int 59), (.int 44), (.int 58)]) (z := 3) B e41_5 (w111 hw) (by decide) ⟨by decide, by decide⟩ (by decide) (by decide) ?_
 intro h2 a1 t3 kt3 Kh2 Ea1 Ca1 Va1 At3 Na1
 have zh2 := Kh2.1
 have la1 : (a1 : Nat) < h2.size := Ea1.lt
 have lt3 : (t3 : Nat) < h2.size := At3.lt
 refine Ow.aloadN (pc' := 8) B e41_7 ?_
 have f4 := hf1.keep Kh2 Ow.nin0
 refine Ow.getfield (pc' := 11) B e41_8 (w44 hw) Via.refl f4 ?_
 refine Ow.iloadN (pc' := 12) B e41_11 ?_
 refine Ow.iconst (pc' := 13) (x := 1) B e41_12 ?_
 refine Ow.isub (pc' := 14) (z := 0) B e41_13 ?_
 have f5 := hf2.keep Kh2 Ow.nin0 Ow.nin0
 refine Ow.Go.old (fun o6 => ?_)
 refine Ow.callVirtual (pc' := 17) (W := 1) (k' := 2) (n' := 16) (argsL := [(.int 0)]) (rest := [(.ref a1)]) (K := "java/lang/String") B e41_14 (w89 hw) (w90 hw) (w92 hw) (w92 hw) (w91 hw) (w11 hw) (w93 hw) (f5).1 (gCha hw G GS (j := 0) (x := px0) o6 f5 rfl (by simp)) pd24 ?_
 intro vq7 h8 S9 q7 zh8
 obtain ⟨rfl, rfl, rfl⟩ := q7
 refine Ow.Go.nr (S' := []) (st' := [(.int px0), (.ref a1)]) ?_
 refine Ow.Go.old (fun o10 => ?_)
 refine Ow.callVirtual (pc' := 20) (W := 0) (k' := 2) (n' := 16) (argsL := [(.int px0)]) (rest := []) (K := "java/lang/String") B e41_17 (w112 hw) (w113 hw) (w115 hw) (w115 hw) (w114 hw) (w11 hw) (w116 hw) Ea1 (con_indexOf_32 hw G GS (pa0 := a1) (pa1 := t3) (px0 := px0) (pk0 := kt3) o10 Ea1 Ca1 Va1 At3 (hk0) hc_px0) pd0 ?_
 intro vq11 h12 S13 q11 zh12
 rcases q11 with q11 | q11
 ·obtain ⟨y14, rfl, rfl, c15, c16, rfl⟩ := q11
  refine Ow.Go.nr (S' := []) (st' := [(.int y14)]) ?_
  refine Ow.ifT (pc' := 34) B e41_20 (tlt (c16)).1 ?_
  refine Ow.iloadN (pc' := 35) B e41_34 ?_
  exact Ow.retI (S' := []) (t := .int) B e41_35 (Or.inl (⟨rfl, ((Keep.refl _ []).trans Kh2 (fun _ q => nomatch q)), c15, rfl⟩))
 ·obtain ⟨y17, rfl, rfl, c18, c19, rfl⟩ := q11
  refine Ow.Go.nr (S' := []) (st' := [(.int y17)]) ?_
  refine Ow.ifF (pc' := 23) B e41_20 (flt (c19)).1 ?_
  refine Ow.aloadN (pc' := 24) B e41_23 ?_
  refine Ow.iloadN (pc' := 25) B e41_24 ?_
  refine Ow.iloadN (pc' := 26) B e41_25 ?_
  refine Ow.iconst (pc' := 27) (x := 1) B e41_26 ?_
  refine Ow.isub (pc' := 28) (z := 0) B e41_27 ?_
  refine Ow.Go.old (fun o20 => ?_)
  have f21 := hf0.keep Kh2
  refine Ow.callPrivate (pc' := 31) (W := 0) (k' := 2) (n' := 16) (argsL := [(.int 0), (.int 0)]) (rest := []) (K := "com/example/elsewhere/elsewhere/Field$Subfield") B e41_28 (w62 hw) (w63 hw) (w64 hw) (w31 hw) (w32 hw) (w65 hw) f21 (con_endBeforeSpaces_18 hw G GS (pa0 := pa0) o20) pd14 ?_
  intro vq22 h23 S24 q22 zh23
  obtain ⟨rfl, rfl, rfl⟩ := q22
  refine Ow.Go.nr (S' := []) (st' := [(.int 0)]) ?_
  refine Ow.goto (pc' := 35) B e41_31 ?_
  exact Ow.retI (S' := []) (t := .int) B e41_35 (Or.inr (⟨rfl, ((Keep.refl _ []).trans Kh2 (fun _ q => nomatch q)), c18, rfl⟩))
set_option maxRecDepth 65536 in
set_option maxHeartbeats 40000000 in
theorem con_endBeforeSpaces_51 (hw : Hw a0 Z) (G : Ow.Glo Z cz sf) (GS : GlS Z) {pa0 : Nat} {pa1 : Nat} {pa2 : Nat} {px0 : Int32} {px1 : Int32} {px2 : Int32} {pk0 : ClassId} {h0 : Heap} (O0 : Old Z n0 h0) (hf0 : Fld Z h0 pa0 "com/example/elsewhere/elsewhere/Field$Subfield" "value" "Ljava/lang/String;" (.ref pa1)) (hf1 : Ow.Chs Z h0 pa1 pa2 pk0 [px0, px1, px2]) (hn0 : n0 ≤ pa0) (hn1 : n0 ≤ pa1) (hc_px0 : nar .char px0 = px0) (hc_px1 : nar .char px1 = px1) (hc_px2 : nar .char px2 = px2) :
    Ow.Con l Z EL1 n0 my39 prog_11_method_5_code 4 (Option.some Jvm.ClassFile.FieldType.int) [] ({ frames := 5, cells := 0, slots := 0, locals := 66 } : Room) #[(.ref pa0), (.int 0), (.int 1)] [] h0 (fun v h S' => (v = some (.int 0) ∧ h = h0 ∧ px0 = (32 : Int32) ∧ S' = []) ∨ (v = some (.int 1) ∧ h = h0 ∧ ¬ (px0 = (32 : Int32)) ∧ S' = [])) := by
 refine Ow.Con.enter (Ls := #[.val (.ref pa0), .val (.int 0), .val (.int 1), .unset]) (plainFor_of_name pn6) O0 (hEW hw) (hSA hw) ?_
 intro p e s m below meth c B
 have z0 := Ow.old_le O0
 have lpa0 : (pa0 : Nat) < h0.size := hf0.lt
 have lpa1 : (pa1 : Nat) < h0.size := hf1.lt
 have lpa2 : (pa2 : Nat) < h0.size := hf1.ltt
 refine Ow.iloadN (pc' := 1) B e40_0 ?_
 refine Ow.istoreN (pc' := 2) (Ls' := #[.val (.ref pa0), .val (.int 0), .val (.int 1), .val (.int 1)]) B e40_1 ?_
 refine Ow.iloadN (pc' := 3) B e40_2 ?_
 refine Ow.iloadN (pc' := 4) B e40_3 ?_
 refine Ow.icmpF (pc' := 7) B e40_4 (by decide) ?_
 refine Ow.aloadN (pc' := 8) B e40_7 ?_
 refine Ow.getfield (pc' := 11) B e40_8 (w44 hw) Via.refl hf0 ?_
 refine Ow.iloadN (pc' := 12) B e40_11 ?_
 refine Ow.iconst (pc' := 13) (x := 1) B e40_12 ?_
 refine Ow.isub (pc' := 14) (z := 0) B e40_13 ?_
 refine Ow.Go.old (fun o1 => ?_)
 refine Ow.callVirtual (pc' := 17) (W := 0) (k' := 0) (n' := 0) (argsL := [(.int 0)]) (rest := []) (K := "java/lang/String") B e40_14 (w89 hw) (w90 hw) (w92 hw) (w92 hw) (w91 hw) (w11 hw) (w93 hw) (hf1).1 (gCha hw G GS (j := 0) (x := px0) o1 hf1 rfl (by simp)) pd24 ?_
 intro vq2 h3 S4 q2 zh3
 obtain ⟨rfl, rfl, rfl⟩ := q2
 refine Ow.Go.nr (S' := []) (st' := [(.int px0)]) ?_
 refine Ow.bipush (pc' := 19) (x := 32) B e40_17 ?_
 by_cases c5 : px0 = (32 : Int32)
 ·refine Ow.icmpF (pc' := 22) B e40_19 (teq c5).2 ?_
  refine Ow.iinc (pc' := 25) (y := 0) (Ls' := #[.val (.ref pa0), .val (.int 0), .val (.int 1), .val (.int 0)]) B e40_22 ?_
  refine Ow.goto (pc' := 2) B e40_25 ?_
  refine Ow.iloadN (pc' := 3) B e40_2 ?_
  refine Ow.iloadN (pc' := 4) B e40_3 ?_
  refine Ow.icmpT (pc' := 28) B e40_4 (by decide) ?_
  refine Ow.iloadN (pc' := 29) B e40_28 ?_
  exact Ow.retI (S' := []) (t := .int) B e40_29 (Or.inl (⟨rfl, rfl, c5, rfl⟩))
 ·refine Ow.icmpT (pc' := 28) B e40_19 (feq c5).2 ?_
  refine Ow.iloadN (pc' := 29) B e40_28 ?_
  exact Ow.retI (S' := []) (t := .int) B e40_29 (Or.inr (⟨rfl, rfl, c5, rfl⟩))
set_option maxRecDepth 65536 in
set_option maxHeartbeats 40000000 in
theorem con_endBeforeSeparator_52 (hw : Hw a0 Z) (G : Ow.Glo Z cz sf) (GS : GlS Z) {pa0 : Nat} {pa1 : Nat} {pa2 : Nat} {px0 : Int32} {px1 : Int32} {px2 : Int32} {pk0 : ClassId} {h0 : Heap} (O0 : Old Z n0 h0) (hf0 : Exa Z h0 pa0 "com/example/elsewhere/elsewhere/Field$Subfield") (hf1 : Fld Z h0 pa0 "com/example/elsewhere/elsewhere/Field$Subfield" "value" "Ljava/lang/String;" (.ref pa1)) (hf2 : Ow.Chs Z h0 pa1 pa2 pk0 [px0, px1, px2]) (hn0 : n0 ≤ pa0) (hn1 : n0 ≤ pa1) (hk0 : ¬ (px1 < (0 : Int32))) (hc_px0 : nar .char px0 = px0) (hc_px1 : nar .char px1 = px1) (hc_px2 : nar .char px2 = px2) :
    Ow.Con l Z EL1 n0 my40 prog_11_method_4_code 3 (Option.some Jvm.ClassFile.FieldType.int) [] ({ frames := 6, cells := 2, slots := 16, locals := 81 } : Room) #[(.ref pa0), (.int 0), (.int 2)] [] h0 (fun v h S' => (v = some (.int 2) ∧ Keep h0 h [] ∧ ¬ (sepP px1) ∧ S' = []) ∨ (v = some (.int 0) ∧ Keep h0 h [] ∧ sepP px1 ∧ px0 = (32 : Int32) ∧ S' = []) ∨ (v = some (.int 1) ∧ Keep h0 h [] ∧ sepP px1 ∧ ¬ (px0 = (32 : Int32)) ∧ S' = [])) := by
 refine Ow.Con.enter (Ls := #[.val (.ref pa0), .val (.int 0), .val (.int 2)]) (plainFor_of_name pn6) O0 (hEW hw) (hSA hw) ?_
 intro p e s m below meth c B
 have z0 := Ow.old_le O0
 have lpa0 : (pa0 : Nat) < h0.size := hf0.lt
 have lpa1 : (pa1 : Nat) < h0.size := hf2.lt
 have lpa2 : (pa2 : Nat) < h0.size := hf2.ltt
 refine Ow.iloadN (pc' := 1) B e41_0 ?_
 refine Ow.iloadN (pc' := 2) B e41_1 ?_
 refine Ow.icmpF (pc' := 5) B e41_2 (by decide) ?_
 refine Ow.ldcText (pc' := 7) (k' := 2) (n' := 16) (nn := 12) (vs := [(.int 59), (.int 44), (.int 58)]) (z := 3) B e41_5 (w111 hw) (by decide) ⟨by decide, by decide⟩ (by decide) (by decide) ?_
 intro h2 a1 t3 kt3 Kh2 Ea1 Ca1 Va1 At3 Na1
 have zh2 := Kh2.1
 have la1 : (a1 : Nat) < h2.size := Ea1.lt
 have lt3 : (t3 : Nat) < h2.size := At3.lt
 refine Ow.aloadN (pc' := 8) B e41_7 ?_
 have f4 := hf1.keep Kh2 Ow.nin0
 refine Ow.getfield (pc' := 11) B e41_8 (w44 hw) Via.refl f4 ?_
 refine Ow.iloadN (pc' := 12) B e41_11 ?_
 refine Ow.iconst (pc' := 13) (x := 1) B e41_12 ?_
 refine Ow.isub (pc' := 14) (z := 1) B e41_13 ?_
 have f5 := hf2.keep Kh2 Ow.nin0 Ow.nin0
 refine Ow.Go.old (fun o6 => ?_)
 refine Ow.callVirtual (pc' := 17) (W := 1) (k' := 2) (n' := 16) (argsL := [(.int 1)]) (rest := [(.ref a1)]) (K := "java/lang/String") B e41_14 (w89 hw) (w90 hw) (w92 hw) (w92 hw) (w91 hw) (w11 hw) (w93 hw) (f5).1 (gCha hw G GS (j := 1) (x := px1) o6 f5 rfl (by simp)) pd24 ?_
 intro vq7 h8 S9 q7 zh8
 obtain ⟨rfl, rfl, rfl⟩ := q7
 refine Ow.Go.nr (S' := []) (st' := [(.int px1), (.ref a1)]) ?_
 refine Ow.Go.old (fun o10 => ?_)
 refine Ow.callVirtual (pc' := 20) (W := 0) (k' := 2) (n' := 16) (argsL := [(.int px1)]) (rest := []) (K := "java/lang/String") B e41_17 (w112 hw) (w113 hw) (w115 hw) (w115 hw) (w114 hw) (w11 hw) (w116 hw) Ea1 (con_indexOf_32 hw G GS (pa0 := a1) (pa1 := t3) (px0 := px1) (pk0 := kt3) o10 Ea1 Ca1 Va1 At3 (hk0) hc_px1) pd0 ?_
 intro vq11 h12 S13 q11 zh12
 rcases q11 with q11 | q11
 ·obtain ⟨y14, rfl, rfl, c15, c16, rfl⟩ := q11
  refine Ow.Go.nr (S' := []) (st' := [(.int y14)]) ?_
  refine Ow.ifT (pc' := 34) B e41_20 (tlt (c16)).1 ?_
  refine Ow.iloadN (pc' := 35) B e41_34 ?_
  exact Ow.retI (S' := []) (t := .int) B e41_35 (Or.inl (⟨rfl, ((Keep.refl _ []).trans Kh2 (fun _ q => nomatch q)), c15, rfl⟩))
 ·obtain ⟨y17, rfl, rfl, c18, c19, rfl⟩ := q11
  refine Ow.Go.nr (S' := []) (st' := [(.int y17)]) ?_
  refine Ow.ifF (pc' := 23) B e41_20 (flt (c19)).1 ?_
  refine Ow.aloadN (pc' := 24) B e41_23 ?_
  refine Ow.iloadN (pc' := 25) B e41_24 ?_
  refine Ow.iloadN (pc' := 26) B e41_25 ?_
  refine Ow.iconst (pc' := 27) (x := 1) B e41_26 ?_
  refine Ow.isub (pc' := 28) (z := 1) B e41_27 ?_
  refine Ow.Go.old (fun o20 => ?_)
  have f21 := hf0.keep Kh2
  refine Ow.callPrivate (pc' := 31) (W := 0) (k' := 2) (n' := 16) (argsL := [(.int 0), (.int 1)]) (rest := []) (K := "com/example/elsewhere/elsewhere/Field$Subfield") B e41_28 (w62 hw) (w63 hw) (w64 hw) (w31 hw) (w32 hw) (w65 hw) f21 (con_endBeforeSpaces_51 hw G GS (pa0 := pa0) (pa1 := pa1) (pa2 := pa2) (px0 := px0) (px1 := px1) (px2 := px2) (pk0 := pk0) o20 f4 f5 (by omega) (by omega) hc_px0 hc_px1 hc_px2) pd14 ?_
  intro vq22 h23 S24 q22 zh23
  rcases q22 with q22 | q22
  ·obtain ⟨rfl, rfl, c25, rfl⟩ := q22
   refine Ow.Go.nr (S' := []) (st' := [(.int 0)]) ?_
   refine Ow.goto (pc' := 35) B e41_31 ?_
   exact Ow.retI (S' := []) (t := .int) B e41_35 (Or.inr (Or.inl (⟨rfl, ((Keep.refl _ []).trans Kh2 (fun _ q => nomatch q)), c18, c25, rfl⟩)))
  ·obtain ⟨rfl, rfl, c26, rfl⟩ := q22
   refine Ow.Go.nr (S' := []) (st' := [(.int 1)]) ?_
   refine Ow.goto (pc' := 35) B e41_31 ?_
   exact Ow.retI (S' := []) (t := .int) B e41_35 (Or.inr (Or.inr (⟨rfl, ((Keep.refl _ []).trans Kh2 (fun _ q => nomatch q)), c18, c26, rfl⟩)))
set_option maxRecDepth 65536 in
set_option maxHeartbeats 40000000 in
theorem con_endBeforeSpaces_53 (hw : Hw a0 Z) (G : Ow.Glo Z cz sf) (GS : GlS Z) {pa0 : Nat} {pa1 : Nat} {pa2 : Nat} {px0 : Int32} {px1 : Int32} {px2 : Int32} {pk0 : ClassId} {h0 : Heap} (O0 : Old Z n0 h0) (hf0 : Fld Z h0 pa0 "com/example/elsewhere/elsewhere/Field$Subfield" "value" "Ljava/lang/String;" (.ref pa1)) (hf1 : Ow.Chs Z h0 pa1 pa2 pk0 [px0, px1, px2]) (hn0 : n0 ≤ pa0) (hn1 : n0 ≤ pa1) (hc_px0 : nar .char px0 = px0) (hc_px1 : nar .char px1 = px1) (hc_px2 : nar .char px2 = px2) :
    Ow.Con l Z EL1 n0 my39 prog_11_method_5_code 4 (Option.some Jvm.ClassFile.FieldType.int) [] ({ frames := 5, cells := 0, slots := 0, locals := 66 } : Room) #[(.ref pa0), (.int 0), (.int 2)] [] h0 (fun v h S' => (v = some (.int 0) ∧ h = h0 ∧ px1 = (32 : Int32) ∧ px0 = (32 : Int32) ∧ S' = []) ∨ (v = some (.int 1) ∧ h = h0 ∧ px1 = (32 : Int32) ∧ ¬ (px0 = (32 : Int32)) ∧ S' = []) ∨ (v = some (.int 2) ∧ h = h0 ∧ ¬ (px1 = (32 : Int32)) ∧ S' = [])) := by
 refine Ow.Con.enter (Ls := #[.val (.ref pa0), .val (.int 0), .val (.int 2), .unset]) (plainFor_of_name pn6) O0 (hEW hw) (hSA hw) ?_
 intro p e s m below meth c B
 have z0 := Ow.old_le O0
 have lpa0 : (pa0 : Nat) < h0.size := hf0.lt
 have lpa1 : (pa1 : Nat) < h0.size := hf1.lt
 have lpa2 : (pa2 : Nat) < h0.size := hf1.ltt
 refine Ow.iloadN (pc' := 1) B e40_0 ?_
 refine Ow.istoreN (pc' := 2) (Ls' := #[.val (.ref pa0), .val (.int 0), .val (.int 2), .val (.int 2)]) B e40_1 ?_
 refine Ow.iloadN (pc' := 3) B e40_2 ?_
 refine Ow.iloadN (pc' := 4) B e40_3 ?_
 refine Ow.icmpF (pc' := 7) B e40_4 (by decide) ?_
 refine Ow.aloadN (pc' := 8) B e40_7 ?_
 refine Ow.getfield (pc' := 11) B e40_8 (w44 hw) Via.refl hf0 ?_
 refine Ow.iloadN (pc' := 12) B e40_11 ?_
 refine Ow.iconst (pc' := 13) (x := 1) B e40_12 ?_
 refine Ow.isub (pc' := 14) (z := 1) B e40_13 ?_
 refine Ow.Go.old (fun o1 => ?_)
 refine Ow.callVirtual (pc' := 17) (W := 0) (k' := 0) (n' := 0) (argsL := [(.int 1)]) (rest := []) (K := "java/lang/String") B e40_14 (w89 hw) (w90 hw) (w92 hw) (w92 hw) (w91 hw) (w11 hw) (w93 hw) (hf1).1 (gCha hw G GS (j := 1) (x := px1) o1 hf1 rfl (by simp)) pd24 ?_
 intro vq2 h3 S4 q2 zh3
 obtain ⟨rfl, rfl, rfl⟩ := q2
 refine Ow.Go.nr (S' := []) (st' := [(.int px1)]) ?_
 refine Ow.bipush (pc' := 19) (x := 32) B e40_17 ?_
 by_cases c5 : px1 = (32 : Int32)
 ·refine Ow.icmpF (pc' := 22) B e40_19 (teq c5).2 ?_
  refine Ow.iinc (pc' := 25) (y := 1) (Ls' := #[.val (.ref pa0), .val (.int 0), .val (.int 2), .val (.int 1)]) B e40_22 ?_
  refine Ow.goto (pc' := 2) B e40_25 ?_
  refine Ow.iloadN (pc' := 3) B e40_2 ?_
  refine Ow.iloadN (pc' := 4) B e40_3 ?_
  refine Ow.icmpF (pc' := 7) B e40_4 (by decide) ?_
  refine Ow.aloadN (pc' := 8) B e40_7 ?_
  refine Ow.getfield (pc' := 11) B e40_8 (w44 hw) Via.refl hf0 ?_
  refine Ow.iloadN (pc' := 12) B e40_11 ?_
  refine Ow.iconst (pc' := 13) (x := 1) B e40_12 ?_
  refine Ow.isub (pc' := 14) (z := 0) B e40_13 ?_
  refine Ow.Go.old (fun o6 => ?_)
  refine Ow.callVirtual (pc' := 17) (W := 0) (k' := 0) (n' := 0) (argsL := [(.int 0)]) (rest := []) (K := "java/lang/String") B e40_14 (w89 hw) (w90 hw) (w92 hw) (w92 hw) (w91 hw) (w11 hw) (w93 hw) (hf1).1 (gCha hw G GS (j := 0) (x := px0) o6 hf1 rfl (by simp)) pd24 ?_
  intro vq7 h8 S9 q7 zh8
  obtain ⟨rfl, rfl, rfl⟩ := q7
  refine Ow.Go.nr (S' := []) (st' := [(.int px0)]) ?_
  refine Ow.bipush (pc' := 19) (x := 32) B e40_17 ?_
  by_cases c10 : px0 = (32 : Int32)
  ·refine Ow.icmpF (pc' := 22) B e40_19 (teq c10).2 ?_
   refine Ow.iinc (pc' := 25) (y := 0) (Ls' := #[.val (.ref pa0), .val (.int 0), .val (.int 2), .val (.int 0)]) B e40_22 ?_
   refine Ow.goto (pc' := 2) B e40_25 ?_
   refine Ow.iloadN (pc' := 3) B e40_2 ?_
   refine Ow.iloadN (pc' := 4) B e40_3 ?_
   refine Ow.icmpT (pc' := 28) B e40_4 (by decide) ?_
   refine Ow.iloadN (pc' := 29) B e40_28 ?_
   exact Ow.retI (S' := []) (t := .int) B e40_29 (Or.inl (⟨rfl, rfl, c5, c10, rfl⟩))
  ·refine Ow.icmpT (pc' := 28) B e40_19 (feq c10).2 ?_
   refine Ow.iloadN (pc' := 29) B e40_28 ?_
   exact Ow.retI (S' := []) (t := .int) B e40_29 (Or.inr (Or.inl (⟨rfl, rfl, c5, c10, rfl⟩)))
 ·refine Ow.icmpT (pc' := 28) B e40_19 (feq c5).2 ?_
  refine Ow.iloadN (pc' := 29) B e40_28 ?_
  exact Ow.retI (S' := []) (t := .int) B e40_29 (Or.inr (Or.inr (⟨rfl, rfl, c5, rfl⟩)))
set_option maxRecDepth 65536 in
set_option maxHeartbeats 40000000 in
theorem con_endBeforeSeparator_54 (hw : Hw a0 Z) (G : Ow.Glo Z cz sf) (GS : GlS Z) {pa0 : Nat} {pa1 : Nat} {pa2 : Nat} {px0 : Int32} {px1 : Int32} {px2 : Int32} {pk0 : ClassId} {h0 : Heap} (O0 : Old Z n0 h0) (hf0 : Exa Z h0 pa0 "com/example/elsewhere/elsewhere/Field$Subfield") (hf1 : Fld Z h0 pa0 "com/example/elsewhere/elsewhere/Field$Subfield" "value" "Ljava/lang/String;" (.ref pa1)) (hf2 : Ow.Chs Z h0 pa1 pa2 pk0 [px0, px1, px2]) (hn0 : n0 ≤ pa0) (hn1 : n0 ≤ pa1) (hk0 : ¬ (px2 < (0 : Int32))) (hc_px0 : nar .char px0 = px0) (hc_px1 : nar .char px1 = px1) (hc_px2 : nar .char px2 = px2) :
    Ow.Con l Z EL1 n0 my40 prog_11_method_4_code 3 (Option.some Jvm.ClassFile.FieldType.int) [] ({ frames := 6, cells := 2, slots := 16, locals := 81 } : Room) #[(.ref pa0), (.int 0), (.int 3)] [] h0 (fun v h S' => (v = some (.int 3) ∧ Keep h0 h [] ∧ ¬ (sepP px2) ∧ S' = []) ∨ (v = some (.int 0) ∧ Keep h0 h [] ∧ sepP px2 ∧ px1 = (32 : Int32) ∧ px0 = (32 : Int32) ∧ S' = []) ∨ (v = some (.int 1) ∧ Keep h0 h [] ∧ sepP px2 ∧ px1 = (32 : Int32) ∧ ¬ (px0 = (32 : Int32)) ∧ S' = []) ∨ (v = some (.int 2) ∧ Keep h0 h [] ∧ sepP px2 ∧ ¬ (px1 = (32 : Int32)) ∧ S' = [])) := by
 refine Ow.Con.enter (Ls := #[.val (.ref pa0), .val (.int 0), .val (.int 3)]) (plainFor_of_name pn6) O0 (hEW hw) (hSA hw) ?_
 intro p e s m below meth c B
 have z0 := Ow.old_le O0
 have lpa0 : (pa0 : Nat) < h0.size := hf0.lt
 have lpa1 : (pa1 : Nat) < h0.size := hf2.lt
 have lpa2 : (pa2 : Nat) < h0.size := hf2.ltt
 refine Ow.iloadN (pc' := 1) B e41_0 ?_
 refine Ow.iloadN (pc' := 2) B e41_1 ?_
 refine Ow.icmpF (pc' := 5) B e41_2 (by decide) ?_
 refine Ow.ldcText (pc' := 7) (k' := 2) (n' := 16) (nn := 12) (vs := [(.int 59), (.int 44), (.int 58)]) (z := 3) B e41_5 (w111 hw) (by decide) ⟨by decide, by decide⟩ (by decide) (by decide) ?_
 intro h2 a1 t3 kt3 Kh2 Ea1 Ca1 Va1 At3 Na1
 have zh2 := Kh2.1
 have la1 : (a1 : Nat) < h2.size := Ea1.lt
 have lt3 : (t3 : Nat) < h2.size := At3.lt
 refine Ow.aloadN (pc' := 8) B e41_7 ?_
 have f4 := hf1.keep Kh2 Ow.nin0
 refine Ow.getfield (pc' := 11) B e41_8 (w44 hw) Via.refl f4 ?_
 refine Ow.iloadN (pc' := 12) B e41_11 ?_
 refine Ow.iconst (pc' := 13) (x := 1) B e41_12 ?_
 refine Ow.isub (pc' := 14) (z := 2) B e41_13 ?_
 have f5 := hf2.keep Kh2 Ow.nin0 Ow.nin0
 refine Ow.Go.old (fun o6 => ?_)
 refine Ow.callVirtual (pc' := 17) (W := 1) (k' := 2) (n' := 16) (argsL := [(.int 2)]) (rest := [(.ref a1)]) (K := "java/lang/String") B e41_14 (w89 hw) (w90 hw) (w92 hw) (w92 hw) (w91 hw) (w11 hw) (w93 hw) (f5).1 (gCha hw G GS (j := 2) (x := px2) o6 f5 rfl (by simp)) pd24 ?_
 intro vq7 h8 S9 q7 zh8
 obtain ⟨rfl, rfl, rfl⟩ := q7
 refine Ow.Go.nr (S' := []) (st' := [(.int px2), (.ref a1)]) ?_
 refine Ow.Go.old (fun o10 => ?_)
 refine Ow.callVirtual (pc' := 20) (W := 0) (k' := 2) (n' := 16) (argsL := [(.int px2)]) (rest := []) (K := "java/lang/String") B e41_17 (w112 hw) (w113 hw) (w115 hw) (w115 hw) (w114 hw) (w11 hw) (w116 hw) Ea1 (con_indexOf_32 hw G GS (pa0 := a1) (pa1 := t3) (px0 := px2) (pk0 := kt3) o10 Ea1 Ca1 Va1 At3 (hk0) hc_px2) pd0 ?_
 intro vq11 h12 S13 q11 zh12
 rcases q11 with q11 | q11
 ·obtain ⟨y14, rfl, rfl, c15, c16, rfl⟩ := q11
  refine Ow.Go.nr (S' := []) (st' := [(.int y14)]) ?_
  refine Ow.ifT (pc' := 34) B e41_20 (tlt (c16)).1 ?_
  refine Ow.iloadN (pc' := 35) B e41_34 ?_
  exact Ow.retI (S' := []) (t := .int) B e41_35 (Or.inl (⟨rfl, ((Keep.refl _ []).trans Kh2 (fun _ q => nomatch q)), c15, rfl⟩))
 ·obtain ⟨y17, rfl, rfl, c18, c19, rfl⟩ := q11
  refine Ow.Go.nr (S' := []) (st' := [(.int y17)]) ?_
  refine Ow.ifF (pc' := 23) B e41_20 (flt (c19)).1 ?_
  refine Ow.aloadN (pc' := 24) B e41_23 ?_
  refine Ow.iloadN (pc' := 25) B e41_24 ?_
  refine Ow.iloadN (pc' := 26) B e41_25 ?_
  refine Ow.iconst (pc' := 27) (x := 1) B e41_26 ?_
  refine Ow.isub (pc' := 28) (z := 2) B e41_27 ?_
  refine Ow.Go.old (fun o20 => ?_)
  have f21 := hf0.keep Kh2
  refine Ow.callPrivate (pc' := 31) (W := 0) (k' := 2) (n' := 16) (argsL := [(.int 0), (.int 2)]) (rest := []) (K := "com/example/elsewhere/elsewhere/Field$Subfield") B e41_28 (w62 hw) (w63 hw) (w64 hw) (w31 hw) (w32 hw) (w65 hw) f21 (con_endBeforeSpaces_53 hw G GS (pa0 := pa0) (pa1 := pa1) (pa2 := pa2) (px0 := px0) (px1 := px1) (px2 := px2) (pk0 := pk0) o20 f4 f5 (by omega) (by omega) hc_px0 hc_px1 hc_px2) pd14 ?_
  intro vq22 h23 S24 q22 zh23
  rcases q22 with q22 | q22 | q22
  ·obtain ⟨rfl, rfl, c25, c26, rfl⟩ := q22
   refine Ow.Go.nr (S' := []) (st' := [(.int 0)]) ?_
   refine Ow.goto (pc' := 35) B e41_31 ?_
   exact Ow.retI (S' := []) (t := .int) B e41_35 (Or.inr (Or.inl (⟨rfl, ((Keep.refl _ []).trans Kh2 (fun _ q => nomatch q)), c18, c25, c26, rfl⟩)))
  ·obtain ⟨rfl, rfl, c27, c28, rfl⟩ := q22
   refine Ow.Go.nr (S' := []) (st' := [(.int 1)]) ?_
   refine Ow.goto (pc' := 35) B e41_31 ?_
   exact Ow.retI (S' := []) (t := .int) B e41_35 (Or.inr (Or.inr (Or.inl (⟨rfl, ((Keep.refl _ []).trans Kh2 (fun _ q => nomatch q)), c18, c27, c28, rfl⟩))))
  ·obtain ⟨rfl, rfl, c29, rfl⟩ := q22
   refine Ow.Go.nr (S' := []) (st' := [(.int 2)]) ?_
   refine Ow.goto (pc' := 35) B e41_31 ?_
   exact Ow.retI (S' := []) (t := .int) B e41_35 (Or.inr (Or.inr (Or.inr (⟨rfl, ((Keep.refl _ []).trans Kh2 (fun _ q => nomatch q)), c18, c29, rfl⟩))))
set_option maxRecDepth 65536 in
set_option maxHeartbeats 40000000 in
theorem con_withoutSeparator_55 (hw : Hw a0 Z) (G : Ow.Glo Z cz sf) (GS : GlS Z) {pa0 : Nat} {pa1 : Nat} {pa2 : Nat} {px0 : Int32} {px1 : Int32} {px2 : Int32} {pk0 : ClassId} {h0 : Heap} (O0 : Old Z n0 h0) (hf0 : Exa Z h0 pa0 "com/example/elsewhere/elsewhere/Field$Subfield") (hf1 : Fld Z h0 pa0 "com/example/elsewhere/elsewhere/Field$Subfield" "value" "Ljava/lang/String;" (.ref pa1)) (hf2 : Ow.Chs Z h0 pa1 pa2 pk0 [px0, px1, px2]) (hn0 : n0 ≤ pa0) (hn1 : n0 ≤ pa1) (hk0 : ¬ (px0 < (0 : Int32))) (hk1 : ¬ (px1 < (0 : Int32))) (hk2 : ¬ (px2 < (0 : Int32))) (hc_px0 : nar .char px0 = px0) (hc_px1 : nar .char px1 = px1) (hc_px2 : nar .char px2 = px2) :
    Ow.Con l Z EL1 n0 my41 prog_11_method_3_code 3 (Option.some (Jvm.ClassFile.FieldType.object "java/lang/String")) [] ({ frames := 7, cells := 5, slots := 32, locals := 110 } : Room) #[(.ref pa0)] [] h0 (fun v h S' => (v = some (.ref pa1) ∧ h = h0 ∧ px2 = (32 : Int32) ∧ px1 = (32 : Int32) ∧ px0 = (32 : Int32) ∧ S' = []) ∨ (v = some (.ref pa1) ∧ Keep h0 h [] ∧ px2 = (32 : Int32) ∧ px1 = (32 : Int32) ∧ ¬ (px0 = (32 : Int32)) ∧ ¬ (sepP px0) ∧ S' = []) ∨ (∃ r0 : Nat, ∃ r1 : Nat, ∃ k0 : ClassId, v = some (.ref r0) ∧ Keep h0 h [] ∧ px2 = (32 : Int32) ∧ px1 = (32 : Int32) ∧ ¬ (px0 = (32 : Int32)) ∧ sepP px0 ∧ Ow.Chs Z h r0 r1 k0 [] ∧ S' = []) ∨ (v = some (.ref pa1) ∧ Keep h0 h [] ∧ px2 = (32 : Int32) ∧ ¬ (px1 = (32 : Int32)) ∧ ¬ (sepP px1) ∧ S' = []) ∨ (∃ r0 : Nat, ∃ r1 : Nat, ∃ k0 : ClassId, v = some (.ref r0) ∧ Keep h0 h [] ∧ px2 = (32 : Int32) ∧ ¬ (px1 = (32 : Int32)) ∧ sepP px1 ∧ px0 = (32 : Int32) ∧ Ow.Chs Z h r0 r1 k0 [] ∧ S' = []) ∨ (∃ r0 : Nat, ∃ r1 : Nat, ∃ k0 : ClassId, v = some (.ref r0) ∧ Keep h0 h [] ∧ px2 = (32 : Int32) ∧ ¬ (px1 = (32 : Int32)) ∧ sepP px1 ∧ ¬ (px0 = (32 : Int32)) ∧ Ow.Chs Z h r0 r1 k0 [px0] ∧ S' = []) ∨ (v = some (.ref pa1) ∧ Keep h0 h [] ∧ ¬ (px2 = (32 : Int32)) ∧ ¬ (sepP px2) ∧ S' = []) ∨ (∃ r0 : Nat, ∃ r1 : Nat, ∃ k0 : ClassId, v = some (.ref r0) ∧ Keep h0 h [] ∧ ¬ (px2 = (32 : Int32)) ∧ sepP px2 ∧ px1 = (32 : Int32) ∧ px0 = (32 : Int32) ∧ Ow.Chs Z h r0 r1 k0 [] ∧ S' = []) ∨ (∃ r0 : Nat, ∃ r1 : Nat, ∃ k0 : ClassId, v = some (.ref r0) ∧ Keep h0 h [] ∧ ¬ (px2 = (32 : Int32)) ∧ sepP px2 ∧ px1 = (32 : Int32) ∧ ¬ (px0 = (32 : Int32)) ∧ Ow.Chs Z h r0 r1 k0 [px0] ∧ S' = []) ∨ (∃ r0 : Nat, ∃ r1 : Nat, ∃ k0 : ClassId, v = some (.ref r0) ∧ Keep h0 h [] ∧ ¬ (px2 = (32 : Int32)) ∧ sepP px2 ∧ ¬ (px1 = (32 : Int32)) ∧ Ow.Chs Z h r0 r1 k0 [px0, px1] ∧ S' = [])) := by
 refine Ow.Con.enter (Ls := #[.val (.ref pa0), .unset, .unset]) (plainFor_of_name pn6) O0 (hEW hw) (hSA hw) ?_
 intro p e s m below meth c B
 have z0 := Ow.old_le O0
 have lpa0 : (pa0 : Nat) < h0.size := hf0.lt
 have lpa1 : (pa1 : Nat) < h0.size := hf2.lt
 have lpa2 : (pa2 : Nat) < h0.size := hf2.ltt
 refine Ow.aloadN (pc' := 1) B e39_0 ?_
 refine Ow.iconst (pc' := 2) (x := 0) B e39_1 ?_
 refine Ow.aloadN (pc' := 3) B e39_2 ?_
 refine Ow.getfield (pc' := 6) B e39_3 (w44 hw) Via.refl hf1 ?_
 refine Ow.Go.old (fun o1 => ?_)
 refine Ow.callVirtual (pc' := 9) (W := 2) (k' := 0) (n' := 0) (argsL := []) (rest := [(.int 0), (.ref pa0)]) (K := "java/lang/String") B e39_6 (w51 hw) (w52 hw) (w54 hw) (w54 hw) (w53 hw) (w11 hw) (w55 hw) (hf2).1 (gLen hw G GS o1 hf2 (by simp)) pd21 ?_
 intro vq2 h3 S4 q2 zh3
 obtain ⟨rfl, rfl, rfl⟩ := q2
 refine Ow.Go.nr (S' := []) (st' := [(.int 3), (.int 0), (.ref pa0)]) ?_
 refine Ow.Go.old (fun o5 => ?_)
 refine Ow.callPrivate (pc' := 12) (W := 0) (k' := 0) (n' := 0) (argsL := [(.int 0), (.int 3)]) (rest := []) (K := "com/example/elsewhere/elsewhere/Field$Subfield") B e39_9 (w62 hw) (w63 hw) (w64 hw) (w31 hw) (w32 hw) (w65 hw) hf0 (con_endBeforeSpaces_49 hw G GS (pa0 := pa0) (pa1 := pa1) (pa2 := pa2) (px0 := px0) (px1 := px1) (px2 := px2) (pk0 := pk0) o5 hf1 hf2 (by omega) (by omega) hc_px0 hc_px1 hc_px2) pd14 ?_
 intro vq6 h7 S8 q6 zh7
 rcases q6 with q6 | q6 | q6 | q6
 ·obtain ⟨rfl, rfl, c9, c10, c11, rfl⟩ := q6
  refine Ow.Go.nr (S' := []) (st' := [(.int 0)]) ?_
  refine Ow.istoreN (pc' := 13) (Ls' := #[.val (.ref pa0), .val (.int 0), .unset]) B e39_12 ?_
  refine Ow.aloadN (pc' := 14) B e39_13 ?_
  refine Ow.iconst (pc' := 15) (x := 0) B e39_14 ?_
  refine Ow.iloadN (pc' := 16) B e39_15 ?_
  refine Ow.Go.old (fun o12 => ?_)
  refine Ow.callPrivate (pc' := 19) (W := 0) (k' := 0) (n' := 0) (argsL := [(.int 0), (.int 0)]) (rest := []) (K := "com/example/elsewhere/elsewhere/Field$Subfield") B e39_16 (w66 hw) (w67 hw) (w68 hw) (w31 hw) (w32 hw) (w69 hw) hf0 (con_endBeforeSeparator_19 hw G GS (pa0 := pa0) o12) pd14 ?_
  intro vq13 h14 S15 q13 zh14
  obtain ⟨rfl, rfl, rfl⟩ := q13
  refine Ow.Go.nr (S' := []) (st' := [(.int 0)]) ?_
  refine Ow.istoreN (pc' := 20) (Ls' := #[.val (.ref pa0), .val (.int 0), .val (.int 0)]) B e39_19 ?_
  refine Ow.iloadN (pc' := 21) B e39_20 ?_
  refine Ow.iloadN (pc' := 22) B e39_21 ?_
  refine Ow.icmpF (pc' := 25) B e39_22 (by decide) ?_
  refine Ow.aloadN (pc' := 26) B e39_25 ?_
  refine Ow.getfield (pc' := 29) B e39_26 (w44 hw) Via.refl hf1 ?_
  refine Ow.goto (pc' := 41) B e39_29 ?_
  exact Ow.retA (S' := []) (t := (.object "java/lang/String")) B e39_41 (Or.inl (⟨rfl, rfl, c9, c10, c11, rfl⟩))
 ·obtain ⟨rfl, rfl, c16, c17, c18, rfl⟩ := q6
  refine Ow.Go.nr (S' := []) (st' := [(.int 1)]) ?_
  refine Ow.istoreN (pc' := 13) (Ls' := #[.val (.ref pa0), .val (.int 1), .unset]) B e39_12 ?_
  refine Ow.aloadN (pc' := 14) B e39_13 ?_
  refine Ow.iconst (pc' := 15) (x := 0) B e39_14 ?_
  refine Ow.iloadN (pc' := 16) B e39_15 ?_
  refine Ow.Go.old (fun o19 => ?_)
  refine Ow.callPrivate (pc' := 19) (W := 0) (k' := 2) (n' := 16) (argsL := [(.int 0), (.int 1)]) (rest := []) (K := "com/example/elsewhere/elsewhere/Field$Subfield") B e39_16 (w66 hw) (w67 hw) (w68 hw) (w31 hw) (w32 hw) (w69 hw) hf0 (con_endBeforeSeparator_50 hw G GS (pa0 := pa0) (pa1 := pa1) (pa2 := pa2) (px0 := px0) (px1 := px1) (px2 := px2) (pk0 := pk0) o19 hf0 hf1 hf2 (by omega) (by omega) (hk0) hc_px0 hc_px1 hc_px2) pd14 ?_
  intro vq20 h21 S22 q20 zh21
  rcases q20 with q20 | q20
  ·obtain ⟨rfl, Kh21, c23, rfl⟩ := q20
   refine Ow.Go.nr (S' := []) (st' := [(.int 1)]) ?_
   refine Ow.istoreN (pc' := 20) (Ls' := #[.val (.ref pa0), .val (.int 1), .val (.int 1)]) B e39_19 ?_
   refine Ow.iloadN (pc' := 21) B e39_20 ?_
   refine Ow.iloadN (pc' := 22) B e39_21 ?_
   refine Ow.icmpF (pc' := 25) B e39_22 (by decide) ?_
   refine Ow.aloadN (pc' := 26) B e39_25 ?_
   have f24 := hf1.keep Kh21 Ow.nin0
   refine Ow.getfield (pc' := 29) B e39_26 (w44 hw) Via.refl f24 ?_
   refine Ow.goto (pc' := 41) B e39_29 ?_
   exact Ow.retA (S' := []) (t := (.object "java/lang/String")) B e39_41 (Or.inr (Or.inl (⟨rfl, ((Keep.refl _ []).trans Kh21 (fun _ q => nomatch q)), c16, c17, c18, c23, rfl⟩)))
  ·obtain ⟨rfl, Kh21, c25, rfl⟩ := q20
   refine Ow.Go.nr (S' := []) (st' := [(.int 0)]) ?_
   refine Ow.istoreN (pc' := 20) (Ls' := #[.val (.ref pa0), .val (.int 1), .val (.int 0)]) B e39_19 ?_
   refine Ow.iloadN (pc' := 21) B e39_20 ?_
   refine Ow.iloadN (pc' := 22) B e39_21 ?_
   refine Ow.icmpT (pc' := 32) B e39_22 (by decide) ?_
   refine Ow.aloadN (pc' := 33) B e39_32 ?_
   have f26 := hf1.keep Kh21 Ow.nin0
   refine Ow.getfield (pc' := 36) B e39_33 (w44 hw) Via.refl f26 ?_
   refine Ow.iconst (pc' := 37) (x := 0) B e39_36 ?_
   refine Ow.iloadN (pc' := 38) B e39_37 ?_
   refine Ow.Go.old (fun o27 => ?_)
   have f28 := hf2.keep Kh21 Ow.nin0 Ow.nin0
   refine Ow.callVirtual (pc' := 41) (W := 0) (k' := 5) (n' := 32) (argsL := [(.int 0), (.int 0)]) (rest := []) (K := "java/lang/String") B e39_38 (w139 hw) (w140 hw) (w142 hw) (w142 hw) (w141 hw) (w11 hw) (w143 hw) (f28).1 (gSub hw G GS (cs := [px0, px1, px2]) (i := 0) (e' := 0) o27 f28 (by decide) (by simp) (Or.inr (Ow.allI (own_seplo (c25)) (Ow.allI (own_seplo0 (c17)) (Ow.allI (own_seplo0 (c16)) Ow.allI0)))) (by simp) (by simp)) pd34 ?_
   intro vq29 h30 S31 q29 zh30
   obtain ⟨r32, t33, k34, rfl, Kh30, f35, rfl⟩ := q29
   have f35 : Ow.Chs Z h30 r32 t33 k34 [] := f35
   have lr32 : (r32 : Nat) < h30.size := f35.lt
   have lt33 : (t33 : Nat) < h30.size := f35.ltt
   refine Ow.Go.nr (S' := []) (st' := [(.ref r32)]) ?_
   exact Ow.retA (S' := []) (t := (.object "java/lang/String")) B e39_41 (Or.inr (Or.inr (Or.inl (⟨r32, t33, k34, rfl, (((Keep.refl _ []).trans Kh21 (fun _ q => nomatch q)).trans Kh30 (fun _ q => nomatch q)), c16, c17, c18, c25, f35, rfl⟩))))
 ·obtain ⟨rfl, rfl, c36, c37, rfl⟩ := q6
  refine Ow.Go.nr (S' := []) (st' := [(.int 2)]) ?_
  refine Ow.istoreN (pc' := 13) (Ls' := #[.val (.ref pa0), .val (.int 2), .unset]) B e39_12 ?_
  refine Ow.aloadN (pc' := 14) B e39_13 ?_
  refine Ow.iconst (pc' := 15) (x := 0) B e39_14 ?_
  refine Ow.iloadN (pc' := 16) B e39_15 ?_
  refine Ow.Go.old (fun o38 => ?_)
  refine Ow.callPrivate (pc' := 19) (W := 0) (k' := 2) (n' := 16) (argsL := [(.int 0), (.int 2)]) (rest := []) (K := "com/example/elsewhere/elsewhere/Field$Subfield") B e39_16 (w66 hw) (w67 hw) (w68 hw) (w31 hw) (w32 hw) (w69 hw) hf0 (con_endBeforeSeparator_52 hw G GS (pa0 := pa0) (pa1 := pa1) (pa2 := pa2) (px0 := px0) (px1 := px1) (px2 := px2) (pk0 := pk0) o38 hf0 hf1 hf2 (by omega) (by omega) (hk1) hc_px0 hc_px1 hc_px2) pd14 ?_
  intro vq39 h40 S41 q39 zh40
  rcases q39 with q39 | q39 | q39
  ·obtain ⟨rfl, Kh40, c42, rfl⟩ := q39
   refine Ow.Go.nr (S' := []) (st' := [(.int 2)]) ?_
   refine Ow.istoreN (pc' := 20) (Ls' := #[.val (.ref pa0), .val (.int 2), .val (.int 2)]) B e39_19 ?_
   refine Ow.iloadN (pc' := 21) B e39_20 ?_
   refine Ow.iloadN (pc' := 22) B e39_21 ?_
   refine Ow.icmpF (pc' := 25) B e39_22 (by decide) ?_
   refine Ow.aloadN (pc' := 26) B e39_25 ?_
   have f43 := hf1.keep Kh40 Ow.nin0
   refine Ow.getfield (pc' := 29) B e39_26 (w44 hw) Via.refl f43 ?_
   refine Ow.goto (pc' := 41) B e39_29 ?_
   exact Ow.retA (S' := []) (t := (.object "java/lang/String")) B e39_41 (Or.inr (Or.inr (Or.inr (Or.inl (⟨rfl, ((Keep.refl _ []).trans Kh40 (fun _ q => nomatch q)), c36, c37, c42, rfl⟩)))))
  ·obtain ⟨rfl, Kh40, c44, c45, rfl⟩ := q39
   refine Ow.Go.nr (S' := []) (st' := [(.int 0)]) ?_
   refine Ow.istoreN (pc' := 20) (Ls' := #[.val (.ref pa0), .val (.int 2), .val (.int 0)]) B e39_19 ?_
   refine Ow.iloadN (pc' := 21) B e39_20 ?_
   refine Ow.iloadN (pc' := 22) B e39_21 ?_
   refine Ow.icmpT (pc' := 32) B e39_22 (by decide) ?_
   refine Ow.aloadN (pc' := 33) B e39_32 ?_
   have f46 := hf1.keep Kh40 Ow.nin0
   refine Ow.getfield (pc' := 36) B e39_33 (w44 hw) Via.refl f46 ?_
   refine Ow.iconst (pc' := 37) (x := 0) B e39_36 ?_
   refine Ow.iloadN (pc' := 38) B e39_37 ?_
   refine Ow.Go.old (fun o47 => ?_)
   have f48 := hf2.keep Kh40 Ow.nin0 Ow.nin0
   refine Ow.callVirtual (pc' := 41) (W := 0) (k' := 5) (n' := 32) (argsL := [(.int 0), (.int 0)]) (rest := []) (K := "java/lang/String") B e39_38 (w139 hw) (w140 hw) (w142 hw) (w142 hw) (w141 hw) (w11 hw) (w143 hw) (f48).1 (gSub hw G GS (cs := [px0, px1, px2]) (i := 0) (e' := 0) o47 f48 (by decide) (by simp) (Or.inr (Ow.allI (own_seplo0 (c45)) (Ow.allI (own_seplo (c44)) (Ow.allI (own_seplo0 (c36)) Ow.allI0)))) (by simp) (by simp)) pd34 ?_
   intro vq49 h50 S51 q49 zh50
   obtain ⟨r52, t53, k54, rfl, Kh50, f55, rfl⟩ := q49
   have f55 : Ow.Chs Z h50 r52 t53 k54 [] := f55
   have lr52 : (r52 : Nat) < h50.size := f55.lt
   have lt53 : (t53 : Nat) < h50.size := f55.ltt
   refine Ow.Go.nr (S' := []) (st' := [(.ref r52)]) ?_
   exact Ow.retA (S' := []) (t := (.object "java/lang/String")) B e39_41 (Or.inr (Or.inr (Or.inr (Or.inr (Or.inl (⟨r52, t53, k54, rfl, (((Keep.refl _ []).trans Kh40 (fun _ q => nomatch q)).trans Kh50 (fun _ q => nomatch q)), c36, c37, c44, c45, f55, rfl⟩))))))
  ·obtain ⟨rfl, Kh40, c56, c57, rfl⟩ := q39
   refine Ow.Go.nr (S' := []) (st' := [(.int 1)]) ?_
   refine Ow.istoreN (pc' := 20) (Ls' := #[.val (.ref pa0), .val (.int 2), .val (.int 1)]) B e39_19 ?_
   refine Ow.iloadN (pc' := 21) B e39_20 ?_
   refine Ow.iloadN (pc' := 22) B e39_21 ?_
   refine Ow.icmpT (pc' := 32) B e39_22 (by decide) ?_
   refine Ow.aloadN (pc' := 33) B e39_32 ?_
   have f58 := hf1.keep Kh40 Ow.nin0
   refine Ow.getfield (pc' := 36) B e39_33 (w44 hw) Via.refl f58 ?_
   refine Ow.iconst (pc' := 37) (x := 0) B e39_36 ?_
   refine Ow.iloadN (pc' := 38) B e39_37 ?_
   refine Ow.Go.old (fun o59 => ?_)
   have f60 := hf2.keep Kh40 Ow.nin0 Ow.nin0
   refine Ow.callVirtual (pc' := 41) (W := 0) (k' := 5) (n' := 32) (argsL := [(.int 0), (.int 1)]) (rest := []) (K := "java/lang/String") B e39_38 (w139 hw) (w140 hw) (w142 hw) (w142 hw) (w141 hw) (w11 hw) (w143 hw) (f60).1 (gSub hw G GS (cs := [px0, px1, px2]) (i := 0) (e' := 1) o59 f60 (by decide) (by simp) (Or.inl (by decide)) (by simp) (by simp)) pd34 ?_
   intro vq61 h62 S63 q61 zh62
   obtain ⟨r64, t65, k66, rfl, Kh62, f67, rfl⟩ := q61
   have f67 : Ow.Chs Z h62 r64 t65 k66 [px0] := f67
   have lr64 : (r64 : Nat) < h62.size := f67.lt
   have lt65 : (t65 : Nat) < h62.size := f67.ltt
   refine Ow.Go.nr (S' := []) (st' := [(.ref r64)]) ?_
   exact Ow.retA (S' := []) (t := (.object "java/lang/String")) B e39_41 (Or.inr (Or.inr (Or.inr (Or.inr (Or.inr (Or.inl (⟨r64, t65, k66, rfl, (((Keep.refl _ []).trans Kh40 (fun _ q => nomatch q)).trans Kh62 (fun _ q => nomatch q)), c36, c37, c56, c57, f67, rfl⟩)))))))
 ·obtain ⟨rfl, rfl, c68, rfl⟩ := q6
  refine Ow.Go.nr (S' := []) (st' := [(.int 3)]) ?_
  refine Ow.istoreN (pc' := 13) (Ls' := #[.val (.ref pa0), .val (.int 3), .unset]) B e39_12 ?_
  refine Ow.aloadN (pc' := 14) B e39_13 ?_
  refine Ow.iconst (pc' := 15) (x := 0) B e39_14 ?_
  refine Ow.iloadN (pc' := 16) B e39_15 ?_
  refine Ow.Go.old (fun o69 => ?_)
  refine Ow.callPrivate (pc' := 19) (W := 0) (k' := 2) (n' := 16) (argsL := [(.int 0), (.int 3)]) (rest := []) (K := "com/example/elsewhere/elsewhere/Field$Subfield") B e39_16 (w66 hw) (w67 hw) (w68 hw) (w31 hw) (w32 hw) (w69 hw) hf0 (con_endBeforeSeparator_54 hw G GS (pa0 := pa0) (pa1 := pa1) (pa2 := pa2) (px0 := px0) (px1 := px1) (px2 := px2) (pk0 := pk0) o69 hf0 hf1 hf2 (by omega) (by omega) (hk2) hc_px0 hc_px1 hc_px2) pd14 ?_
  intro vq70 h71 S72 q70 zh71
  rcases q70 with q70 | q70 | q70 | q70
  ·obtain ⟨rfl, Kh71, c73, rfl⟩ := q70
   refine Ow.Go.nr (S' := []) (st' := [(.int 3)]) ?_
   refine Ow.istoreN (pc' := 20) (Ls' := #[.val (.ref pa0), .val (.int 3), .val (.int 3)]) B e39_19 ?_
   refine Ow.iloadN (pc' := 21) B e39_20 ?_
   refine Ow.iloadN (pc' := 22) B e39_21 ?_
   refine Ow.icmpF (pc' := 25) B e39_22 (by decide) ?_
   refine Ow.aloadN (pc' := 26) B e39_25 ?_
   have f74 := hf1.keep Kh71 Ow.nin0
   refine Ow.getfield (pc' := 29) B e39_26 (w44 hw) Via.refl f74 ?_
   refine Ow.goto (pc' := 41) B e39_29 ?_
   exact Ow.retA (S' := []) (t := (.object "java/lang/String")) B e39_41 (Or.inr (Or.inr (Or.inr (Or.inr (Or.inr (Or.inr (Or.inl (⟨rfl, ((Keep.refl _ []).trans Kh71 (fun _ q => nomatch q)), c68, c73, rfl⟩))))))))
  ·obtain ⟨rfl, Kh71, c75, c76, c77, rfl⟩ := q70
   refine Ow.Go.nr (S' := []) (st' := [(.int 0)]) ?_
   refine Ow.istoreN (pc' := 20) (Ls' := #[.val (.ref pa0), .val (.int 3), .val (.int 0)]) B e39_19 ?_
   refine Ow.iloadN (pc' := 21) B e39_20 ?_
   refine Ow.iloadN (pc' := 22) B e39_21 ?_
   refine Ow.icmpT (pc' := 32) B e39_22 (by decide) ?_
   refine Ow.aloadN (pc' := 33) B e39_32 ?_
   have f78 := hf1.keep Kh71 Ow.nin0
   refine Ow.getfield (pc' := 36) B e39_33 (w44 hw) Via.refl f78 ?_
   refine Ow.iconst (pc' := 37) (x := 0) B e39_36 ?_
   refine Ow.iloadN (pc' := 38) B e39_37 ?_
   refine Ow.Go.old (fun o79 => ?_)
   have f80 := hf2.keep Kh71 Ow.nin0 Ow.nin0
   refine Ow.callVirtual (pc' := 41) (W := 0) (k' := 5) (n' := 32) (argsL := [(.int 0), (.int 0)]) (rest := []) (K := "java/lang/String") B e39_38 (w139 hw) (w140 hw) (w142 hw) (w142 hw) (w141 hw) (w11 hw) (w143 hw) (f80).1 (gSub hw G GS (cs := [px0, px1, px2]) (i := 0) (e' := 0) o79 f80 (by decide) (by simp) (Or.inr (Ow.allI (own_seplo0 (c77)) (Ow.allI (own_seplo0 (c76)) (Ow.allI (own_seplo (c75)) Ow.allI0)))) (by simp) (by simp)) pd34 ?_
   intro vq81 h82 S83 q81 zh82
   obtain ⟨r84, t85, k86, rfl, Kh82, f87, rfl⟩ := q81
   have f87 : Ow.Chs Z h82 r84 t85 k86 [] := f87
   have lr84 : (r84 : Nat) < h82.size := f87.lt
   have lt85 : (t85 : Nat) < h82.size := f87.ltt
   refine Ow.Go.nr (S' := []) (st' := [(.ref r84)]) ?_
   exact Ow.retA (S' := []) (t := (.object "java/lang/String")) B e39_41 (Or.inr (Or.inr (Or.inr (Or.inr (Or.inr (Or.inr (Or.inr (Or.inl (⟨r84, t85, k86, rfl, (((Keep.refl _ []).trans Kh71 (fun _ q => nomatch q)).trans Kh82 (fun _ q => nomatch q)), c68, c75, c76, c77, f87, rfl⟩)))))))))
  ·obtain ⟨rfl, Kh71, c88, c89, c90, rfl⟩ := q70
   refine Ow.Go.nr (S' := []) (st' := [(.int 1)]) ?_
   refine Ow.istoreN (pc' := 20) (Ls' := #[.val (.ref pa0), .val (.int 3), .val (.int 1)]) B e39_19 ?_
   refine Ow.iloadN (pc' := 21) B e39_20 ?_
   refine Ow.iloadN (pc' := 22) B e39_21 ?_
   refine Ow.icmpT (pc' := 32) B e39_22 (by decide) ?_
   refine Ow.aloadN (pc' := 33) B e39_32 ?_
   have f91 := hf1.keep Kh71 Ow.nin0
   refine Ow.getfield (pc' := 36) B e39_33 (w44 hw) Via.refl f91 ?_
   refine Ow.iconst (pc' := 37) (x := 0) B e39_36 ?_
   refine Ow.iloadN (pc' := 38) B e39_37 ?_
   refine Ow.Go.old (fun o92 => ?_)
   have f93 := hf2.keep Kh71 Ow.nin0 Ow.nin0
   refine Ow.callVirtual (pc' := 41) (W := 0) (k' := 5) (n' := 32) (argsL := [(.int 0), (.int 1)]) (rest := []) (K := "java/lang/String") B e39_38 (w139 hw) (w140 hw) (w142 hw) (w142 hw) (w141 hw) (w11 hw) (w143 hw) (f93).1 (gSub hw G GS (cs := [px0, px1, px2]) (i := 0) (e' := 1) o92 f93 (by decide) (by simp) (Or.inl (by decide)) (by simp) (by simp)) pd34 ?_
   intro vq94 h95 S96 q94 zh95
   obtain ⟨r97, t98, k99, rfl, Kh95, f100, rfl⟩ := q94
   have f100 : Ow.Chs Z h95 r97 t98 k99 [px0] := f100
   have lr97 : (r97 : Nat) < h95.size := f100.lt
   have lt98 : (t98 : Nat) < h95.size := f100.ltt
   refine Ow.Go.nr (S' := []) (st' := [(.ref r97)]) ?_
   exact Ow.retA (S' := []) (t := (.object "java/lang/String")) B e39_41 (Or.inr (Or.inr (Or.inr (Or.inr (Or.inr (Or.inr (Or.inr (Or.inr (Or.inl (⟨r97, t98, k99, rfl, (((Keep.refl _ []).trans Kh71 (fun _ q => nomatch q)).trans Kh95 (fun _ q => nomatch q)), c68, c88, c89, c90, f100, rfl⟩))))))))))
  ·obtain ⟨rfl, Kh71, c101, c102, rfl⟩ := q70
   refine Ow.Go.nr (S' := []) (st' := [(.int 2)]) ?_
   refine Ow.istoreN (pc' := 20) (Ls' := #[.val (.ref pa0), .val (.int 3), .val (.int 2)]) B e39_19 ?_
   refine Ow.iloadN (pc' := 21) B e39_20 ?_
   refine Ow.iloadN (pc' := 22) B e39_21 ?_
   refine Ow.icmpT (pc' := 32) B e39_22 (by decide) ?_
   refine Ow.aloadN (pc' := 33) B e39_32 ?_
   have f103 := hf1.keep Kh71 Ow.nin0
   refine Ow.getfield (pc' := 36) B e39_33 (w44 hw) Via.refl f103 ?_
   refine Ow.iconst (pc' := 37) (x := 0) B e39_36 ?_
   refine Ow.iloadN (pc' := 38) B e39_37 ?_
   refine Ow.Go.old (fun o104 => ?_)
   have f105 := hf2.keep Kh71 Ow.nin0 Ow.nin0
   refine Ow.callVirtual (pc' := 41) (W := 0) (k' := 5) (n' := 32) (argsL := [(.int 0), (.int 2)]) (rest := []) (K := "java/lang/String") B e39_38 (w139 hw) (w140 hw) (w142 hw) (w142 hw) (w141 hw) (w11 hw) (w143 hw) (f105).1 (gSub hw G GS (cs := [px0, px1, px2]) (i := 0) (e' := 2) o104 f105 (by decide) (by simp) (Or.inl (by decide)) (by simp) (by simp)) pd34 ?_
   intro vq106 h107 S108 q106 zh107
   obtain ⟨r109, t110, k111, rfl, Kh107, f112, rfl⟩ := q106
   have f112 : Ow.Chs Z h107 r109 t110 k111 [px0, px1] := f112
   have lr109 : (r109 : Nat) < h107.size := f112.lt
   have lt110 : (t110 : Nat) < h107.size := f112.ltt
   refine Ow.Go.nr (S' := []) (st' := [(.ref r109)]) ?_
   exact Ow.retA (S' := []) (t := (.object "java/lang/String")) B e39_41 (Or.inr (Or.inr (Or.inr (Or.inr (Or.inr (Or.inr (Or.inr (Or.inr (Or.inr (⟨r109, t110, k111, rfl, (((Keep.refl _ []).trans Kh71 (fun _ q => nomatch q)).trans Kh107 (fun _ q => nomatch q)), c68, c101, c102, f112, rfl⟩))))))))))
set_option maxRecDepth 65536 in
set_option maxHeartbeats 40000000 in
theorem con_strip_56 (hw : Hw a0 Z) (G : Ow.Glo Z cz sf) (GS : GlS Z) {pa0 : Nat} {px0 : Int32} {px1 : Int32} {px2 : Int32} {px3 : Int32} {pk0 : ClassId} {h0 : Heap} (O0 : Old Z n0 h0) (hf0 : Arv Z h0 pa0 pk0 .char (4 : Int32) [(.int px0), (.int px1), (.int px2), (.int px3)] (.int 0)) (hn0 : n0 ≤ pa0) (hk0 : px2 = (32 : Int32)) (hk1 : px1 = (32 : Int32)) (hk2 : px0 = (32 : Int32)) (hc_px0 : nar .char px0 = px0) (hc_px1 : nar .char px1 = px1) (hc_px2 : nar .char px2 = px2) (hc_px3 : nar .char px3 = px3) :
    Ow.Con l Z EL1 n0 my42 method_4_code 3 (Option.some Jvm.ClassFile.FieldType.int) [] ({ frames := 0, cells := 0, slots := 0, locals := 0 } : Room) #[(.ref pa0), (.int 3)] [] h0 (fun v h S' => (v = some (.int 0) ∧ h = h0 ∧ S' = [])) := by
 refine Ow.Con.enter (Ls := #[.val (.ref pa0), .val (.int 3), .unset]) (plainFor_of_name pn5) O0 (hEW hw) (hSA hw) ?_
 intro p e s m below meth c B
 have z0 := Ow.old_le O0
 have lpa0 : (pa0 : Nat) < h0.size := hf0.lt
 refine Ow.iloadN (pc' := 1) B e42_0 ?_
 refine Ow.istoreN (pc' := 2) (Ls' := #[.val (.ref pa0), .val (.int 3), .val (.int 3)]) B e42_1 ?_
 refine Ow.iloadN (pc' := 3) B e42_2 ?_
 refine Ow.ifF (pc' := 6) B e42_3 (by decide) ?_
 refine Ow.aloadN (pc' := 7) B e42_6 ?_
 refine Ow.iloadN (pc' := 8) B e42_7 ?_
 refine Ow.iconst (pc' := 9) (x := 1) B e42_8 ?_
 refine Ow.isub (pc' := 10) (z := 2) B e42_9 ?_
 refine Ow.caload (pc' := 11) B e42_10 hf0 ⟨by decide, by decide⟩ rfl ?_
 refine Ow.bipush (pc' := 13) (x := 32) B e42_11 ?_
 refine Ow.icmpF (pc' := 16) B e42_13 (teq (hk0)).2 ?_
 refine Ow.iinc (pc' := 19) (y := 2) (Ls' := #[.val (.ref pa0), .val (.int 3), .val (.int 2)]) B e42_16 ?_
 refine Ow.iloadN (pc' := 20) B e42_19 ?_
 refine Ow.ifF (pc' := 23) B e42_20 (by decide) ?_
 refine Ow.aloadN (pc' := 24) B e42_23 ?_
 refine Ow.iloadN (pc' := 25) B e42_24 ?_
 refine Ow.iconst (pc' := 26) (x := 1) B e42_25 ?_
 refine Ow.isub (pc' := 27) (z := 1) B e42_26 ?_
 refine Ow.caload (pc' := 28) B e42_27 hf0 ⟨by decide, by decide⟩ rfl ?_
 refine Ow.bipush (pc' := 30) (x := 32) B e42_28 ?_
 refine Ow.icmpF (pc' := 33) B e42_30 (teq (hk1)).2 ?_
 refine Ow.iinc (pc' := 36) (y := 1) (Ls' := #[.val (.ref pa0), .val (.int 3), .val (.int 1)]) B e42_33 ?_
 refine Ow.iloadN (pc' := 37) B e42_36 ?_
 refine Ow.ifF (pc' := 40) B e42_37 (by decide) ?_
 refine Ow.aloadN (pc' := 41) B e42_40 ?_
 refine Ow.iloadN (pc' := 42) B e42_41 ?_
 refine Ow.iconst (pc' := 43) (x := 1) B e42_42 ?_
 refine Ow.isub (pc' := 44) (z := 0) B e42_43 ?_
 refine Ow.caload (pc' := 45) B e42_44 hf0 ⟨by decide, by decide⟩ rfl ?_
 refine Ow.bipush (pc' := 47) (x := 32) B e42_45 ?_
 refine Ow.icmpF (pc' := 50) B e42_47 (teq (hk2)).2 ?_
 refine Ow.iinc (pc' := 53) (y := 0) (Ls' := #[.val (.ref pa0), .val (.int 3), .val (.int 0)]) B e42_50 ?_
 refine Ow.iloadN (pc' := 54) B e42_53 ?_
 refine Ow.ifT (pc' := 70) B e42_54 (by decide) ?_
 refine Ow.iloadN (pc' := 71) B e42_70 ?_
 exact Ow.retI (S' := []) (t := .int) B e42_71 (⟨rfl, rfl, rfl⟩)
set_option maxRecDepth 65536 in
set_option maxHeartbeats 40000000 in
theorem con_strip_57 (hw : Hw a0 Z) (G : Ow.Glo Z cz sf) (GS : GlS Z) {pa0 : Nat} {px0 : Int32} {px1 : Int32} {px2 : Int32} {px3 : Int32} {pk0 : ClassId} {h0 : Heap} (O0 : Old Z n0 h0) (hf0 : Arv Z h0 pa0 pk0 .char (4 : Int32) [(.int px0), (.int px1), (.int px2), (.int px3)] (.int 0)) (hn0 : n0 ≤ pa0) (hk0 : px2 = (32 : Int32)) (hk1 : px1 = (32 : Int32)) (hk2 : ¬ (px0 = (32 : Int32))) (hc_px0 : nar .char px0 = px0) (hc_px1 : nar .char px1 = px1) (hc_px2 : nar .char px2 = px2) (hc_px3 : nar .char px3 = px3) :
    Ow.Con l Z EL1 n0 my42 method_4_code 3 (Option.some Jvm.ClassFile.FieldType.int) [] ({ frames := 0, cells := 0, slots := 0, locals := 0 } : Room) #[(.ref pa0), (.int 3)] [] h0 (fun v h S' => (v = some (.int 1) ∧ h = h0 ∧ S' = [])) := by
 refine Ow.Con.enter (Ls := #[.val (.ref pa0), .val (.int 3), .unset]) (plainFor_of_name pn5) O0 (hEW hw) (hSA hw) ?_
 intro p e s m below meth c B
 have z0 := Ow.old_le O0
 have lpa0 : (pa0 : Nat) < h0.size := hf0.lt
 refine Ow.iloadN (pc' := 1) B e42_0 ?_
 refine Ow.istoreN (pc' := 2) (Ls' := #[.val (.ref pa0), .val (.int 3), .val (.int 3)]) B e42_1 ?_
 refine Ow.iloadN (pc' := 3) B e42_2 ?_
 refine Ow.ifF (pc' := 6) B e42_3 (by decide) ?_
 refine Ow.aloadN (pc' := 7) B e42_6 ?_
 refine Ow.iloadN (pc' := 8) B e42_7 ?_
 refine Ow.iconst (pc' := 9) (x := 1) B e42_8 ?_
 refine Ow.isub (pc' := 10) (z := 2) B e42_9 ?_
 refine Ow.caload (pc' := 11) B e42_10 hf0 ⟨by decide, by decide⟩ rfl ?_
 refine Ow.bipush (pc' := 13) (x := 32) B e42_11 ?_
 refine Ow.icmpF (pc' := 16) B e42_13 (teq (hk0)).2 ?_
 refine Ow.iinc (pc' := 19) (y := 2) (Ls' := #[.val (.ref pa0), .val (.int 3), .val (.int 2)]) B e42_16 ?_
 refine Ow.iloadN (pc' := 20) B e42_19 ?_
 refine Ow.ifF (pc' := 23) B e42_20 (by decide) ?_
 refine Ow.aloadN (pc' := 24) B e42_23 ?_
 refine Ow.iloadN (pc' := 25) B e42_24 ?_
 refine Ow.iconst (pc' := 26) (x := 1) B e42_25 ?_
 refine Ow.isub (pc' := 27) (z := 1) B e42_26 ?_
 refine Ow.caload (pc' := 28) B e42_27 hf0 ⟨by decide, by decide⟩ rfl ?_
 refine Ow.bipush (pc' := 30) (x := 32) B e42_28 ?_
 refine Ow.icmpF (pc' := 33) B e42_30 (teq (hk1)).2 ?_
 refine Ow.iinc (pc' := 36) (y := 1) (Ls' := #[.val (.ref pa0), .val (.int 3), .val (.int 1)]) B e42_33 ?_
 refine Ow.iloadN (pc' := 37) B e42_36 ?_
 refine Ow.ifF (pc' := 40) B e42_37 (by decide) ?_
 refine Ow.aloadN (pc' := 41) B e42_40 ?_
 refine Ow.iloadN (pc' := 42) B e42_41 ?_
 refine Ow.iconst (pc' := 43) (x := 1) B e42_42 ?_
 refine Ow.isub (pc' := 44) (z := 0) B e42_43 ?_
 refine Ow.caload (pc' := 45) B e42_44 hf0 ⟨by decide, by decide⟩ rfl ?_
 refine Ow.bipush (pc' := 47) (x := 32) B e42_45 ?_
 refine Ow.icmpT (pc' := 53) B e42_47 (feq (hk2)).2 ?_
 refine Ow.iloadN (pc' := 54) B e42_53 ?_
 refine Ow.ifF (pc' := 57) B e42_54 (by decide) ?_
 refine Ow.aloadN (pc' := 58) B e42_57 ?_
 refine Ow.iloadN (pc' := 59) B e42_58 ?_
 refine Ow.iconst (pc' := 60) (x := 1) B e42_59 ?_
 refine Ow.isub (pc' := 61) (z := 0) B e42_60 ?_
 refine Ow.caload (pc' := 62) B e42_61 hf0 ⟨by decide, by decide⟩ rfl ?_
 refine Ow.bipush (pc' := 64) (x := 32) B e42_62 ?_
 refine Ow.icmpT (pc' := 70) B e42_64 (feq (hk2)).2 ?_
 refine Ow.iloadN (pc' := 71) B e42_70 ?_
 exact Ow.retI (S' := []) (t := .int) B e42_71 (⟨rfl, rfl, rfl⟩)
set_option maxRecDepth 65536 in
set_option maxHeartbeats 40000000 in
theorem con_strip_58 (hw : Hw a0 Z) (G : Ow.Glo Z cz sf) (GS : GlS Z) {pa0 : Nat} {px0 : Int32} {px1 : Int32} {px2 : Int32} {px3 : Int32} {pk0 : ClassId} {h0 : Heap} (O0 : Old Z n0 h0) (hf0 : Arv Z h0 pa0 pk0 .char (4 : Int32) [(.int px0), (.int px1), (.int px2), (.int px3)] (.int 0)) (hn0 : n0 ≤ pa0) (hk0 : px2 = (32 : Int32)) (hk1 : ¬ (px1 = (32 : Int32))) (hc_px0 : nar .char px0 = px0) (hc_px1 : nar .char px1 = px1) (hc_px2 : nar .char px2 = px2) (hc_px3 : nar .char px3 = px3) :
    Ow.Con l Z EL1 n0 my42 method_4_code 3 (Option.some Jvm.ClassFile.FieldType.int) [] ({ frames := 0, cells := 0, slots := 0, locals := 0 } : Room) #[(.ref pa0), (.int 3)] [] h0 (fun v h S' => (v = some (.int 2) ∧ h = h0 ∧ S' = [])) := by
 refine Ow.Con.enter (Ls := #[.val (.ref pa0), .val (.int 3), .unset]) (plainFor_of_name pn5) O0 (hEW hw) (hSA hw) ?_
 intro p e s m below meth c B
 have z0 := Ow.old_le O0
 have lpa0 : (pa0 : Nat) < h0.size := hf0.lt
 refine Ow.iloadN (pc' := 1) B e42_0 ?_
 refine Ow.istoreN (pc' := 2) (Ls' := #[.val (.ref pa0), .val (.int 3), .val (.int 3)]) B e42_1 ?_
 refine Ow.iloadN (pc' := 3) B e42_2 ?_
 refine Ow.ifF (pc' := 6) B e42_3 (by decide) ?_
 refine Ow.aloadN (pc' := 7) B e42_6 ?_
 refine Ow.iloadN (pc' := 8) B e42_7 ?_
 refine Ow.iconst (pc' := 9) (x := 1) B e42_8 ?_
 refine Ow.isub (pc' := 10) (z := 2) B e42_9 ?_
 refine Ow.caload (pc' := 11) B e42_10 hf0 ⟨by decide, by decide⟩ rfl ?_
 refine Ow.bipush (pc' := 13) (x := 32) B e42_11 ?_
 refine Ow.icmpF (pc' := 16) B e42_13 (teq (hk0)).2 ?_
 refine Ow.iinc (pc' := 19) (y := 2) (Ls' := #[.val (.ref pa0), .val (.int 3), .val (.int 2)]) B e42_16 ?_
 refine Ow.iloadN (pc' := 20) B e42_19 ?_
 refine Ow.ifF (pc' := 23) B e42_20 (by decide) ?_
 refine Ow.aloadN (pc' := 24) B e42_23 ?_
 refine Ow.iloadN (pc' := 25) B e42_24 ?_
 refine Ow.iconst (pc' := 26) (x := 1) B e42_25 ?_
 refine Ow.isub (pc' := 27) (z := 1) B e42_26 ?_
 refine Ow.caload (pc' := 28) B e42_27 hf0 ⟨by decide, by decide⟩ rfl ?_
 refine Ow.bipush (pc' := 30) (x := 32) B e42_28 ?_
 refine Ow.icmpT (pc' := 36) B e42_30 (feq (hk1)).2 ?_
 refine Ow.iloadN (pc' := 37) B e42_36 ?_
 refine Ow.ifF (pc' := 40) B e42_37 (by decide) ?_
 refine Ow.aloadN (pc' := 41) B e42_40 ?_
 refine Ow.iloadN (pc' := 42) B e42_41 ?_
 refine Ow.iconst (pc' := 43) (x := 1) B e42_42 ?_
 refine Ow.isub (pc' := 44) (z := 1) B e42_43 ?_
 refine Ow.caload (pc' := 45) B e42_44 hf0 ⟨by decide, by decide⟩ rfl ?_
 refine Ow.bipush (pc' := 47) (x := 32) B e42_45 ?_
 refine Ow.icmpT (pc' := 53) B e42_47 (feq (hk1)).2 ?_
 refine Ow.iloadN (pc' := 54) B e42_53 ?_
 refine Ow.ifF (pc' := 57) B e42_54 (by decide) ?_
 refine Ow.aloadN (pc' := 58) B e42_57 ?_
 refine Ow.iloadN (pc' := 59) B e42_58 ?_
 refine Ow.iconst (pc' := 60) (x := 1) B e42_59 ?_
 refine Ow.isub (pc' := 61) (z := 1) B e42_60 ?_
 refine Ow.caload (pc' := 62) B e42_61 hf0 ⟨by decide, by decide⟩ rfl ?_
 refine Ow.bipush (pc' := 64) (x := 32) B e42_62 ?_
 refine Ow.icmpT (pc' := 70) B e42_64 (feq (hk1)).2 ?_
 refine Ow.iloadN (pc' := 71) B e42_70 ?_
 exact Ow.retI (S' := []) (t := .int) B e42_71 (⟨rfl, rfl, rfl⟩)
set_option maxRecDepth 65536 in
set_option maxHeartbeats 40000000 in
theorem con_strip_59 (hw : Hw a0 Z) (G : Ow.Glo Z cz sf) (GS : GlS Z) {pa0 : Nat} {px0 : Int32} {px1 : Int32} {px2 : Int32} {px3 : Int32} {pk0 : ClassId} {h0 : Heap} (O0 : Old Z n0 h0) (hf0 : Arv Z h0 pa0 pk0 .char (4 : Int32) [(.int px0), (.int px1), (.int px2), (.int px3)] (.int 0)) (hn0 : n0 ≤ pa0) (hk0 : ¬ (px2 = (32 : Int32))) (hc_px0 : nar .char px0 = px0) (hc_px1 : nar .char px1 = px1) (hc_px2 : nar .char px2 = px2) (hc_px3 : nar .char px3 = px3) :
    Ow.Con l Z EL1 n0 my42 method_4_code 3 (Option.some Jvm.ClassFile.FieldType.int) [] ({ frames := 0, cells := 0, slots := 0, locals := 0 } : Room) #[(.ref pa0), (.int 3)] [] h0 (fun v h S' => (v = some (.int 3) ∧ h = h0 ∧ S' = [])) := by
 refine Ow.Con.enter (Ls := #[.val (.ref pa0), .val (.int 3), .unset]) (plainFor_of_name pn5) O0 (hEW hw) (hSA hw) ?_
 intro p e s m below meth c B
 have z0 := Ow.old_le O0
 have lpa0 : (pa0 : Nat) < h0.size := hf0.lt
 refine Ow.iloadN (pc' := 1) B e42_0 ?_
 refine Ow.istoreN (pc' := 2) (Ls' := #[.val (.ref pa0), .val (.int 3), .val (.int 3)]) B e42_1 ?_
 refine Ow.iloadN (pc' := 3) B e42_2 ?_
 refine Ow.ifF (pc' := 6) B e42_3 (by decide) ?_
 refine Ow.aloadN (pc' := 7) B e42_6 ?_
 refine Ow.iloadN (pc' := 8) B e42_7 ?_
 refine Ow.iconst (pc' := 9) (x := 1) B e42_8 ?_
 refine Ow.isub (pc' := 10) (z := 2) B e42_9 ?_
 refine Ow.caload (pc' := 11) B e42_10 hf0 ⟨by decide, by decide⟩ rfl ?_
 refine Ow.bipush (pc' := 13) (x := 32) B e42_11 ?_
 refine Ow.icmpT (pc' := 19) B e42_13 (feq (hk0)).2 ?_
 refine Ow.iloadN (pc' := 20) B e42_19 ?_
 refine Ow.ifF (pc' := 23) B e42_20 (by decide) ?_
 refine Ow.aloadN (pc' := 24) B e42_23 ?_
 refine Ow.iloadN (pc' := 25) B e42_24 ?_
 refine Ow.iconst (pc' := 26) (x := 1) B e42_25 ?_
 refine Ow.isub (pc' := 27) (z := 2) B e42_26 ?_
 refine Ow.caload (pc' := 28) B e42_27 hf0 ⟨by decide, by decide⟩ rfl ?_
 refine Ow.bipush (pc' := 30) (x := 32) B e42_28 ?_
 refine Ow.icmpT (pc' := 36) B e42_30 (feq (hk0)).2 ?_
 refine Ow.iloadN (pc' := 37) B e42_36 ?_
 refine Ow.ifF (pc' := 40) B e42_37 (by decide) ?_
 refine Ow.aloadN (pc' := 41) B e42_40 ?_
 refine Ow.iloadN (pc' := 42) B e42_41 ?_
 refine Ow.iconst (pc' := 43) (x := 1) B e42_42 ?_
 refine Ow.isub (pc' := 44) (z := 2) B e42_43 ?_
 refine Ow.caload (pc' := 45) B e42_44 hf0 ⟨by decide, by decide⟩ rfl ?_
 refine Ow.bipush (pc' := 47) (x := 32) B e42_45 ?_
 refine Ow.icmpT (pc' := 53) B e42_47 (feq (hk0)).2 ?_
 refine Ow.iloadN (pc' := 54) B e42_53 ?_
 refine Ow.ifF (pc' := 57) B e42_54 (by decide) ?_
 refine Ow.aloadN (pc' := 58) B e42_57 ?_
 refine Ow.iloadN (pc' := 59) B e42_58 ?_
 refine Ow.iconst (pc' := 60) (x := 1) B e42_59 ?_
 refine Ow.isub (pc' := 61) (z := 2) B e42_60 ?_
 refine Ow.caload (pc' := 62) B e42_61 hf0 ⟨by decide, by decide⟩ rfl ?_
 refine Ow.bipush (pc' := 64) (x := 32) B e42_62 ?_
 refine Ow.icmpT (pc' := 70) B e42_64 (feq (hk0)).2 ?_
 refine Ow.iloadN (pc' := 71) B e42_70 ?_
 exact Ow.retI (S' := []) (t := .int) B e42_71 (⟨rfl, rfl, rfl⟩)
set_option maxRecDepth 65536 in
set_option maxHeartbeats 40000000 in
theorem con_prefixEq_60 (hw : Hw a0 Z) (G : Ow.Glo Z cz sf) (GS : GlS Z) {pa0 : Nat} {pa1 : Nat} {pa2 : Nat} {px0 : Int32} {px1 : Int32} {px2 : Int32} {px3 : Int32} {pk0 : ClassId} {pk1 : ClassId} {h0 : Heap} (O0 : Old Z n0 h0) (hf0 : Ow.Chs Z h0 pa0 pa2 pk0 [px0, px1]) (hf1 : Arv Z h0 pa1 pk1 .char (4 : Int32) [(.int px0), (.int px1), (.int px2), (.int px3)] (.int 0)) (hn1 : n0 ≤ pa1) (hc_px0 : nar .char px0 = px0) (hc_px1 : nar .char px1 = px1) (hc_px2 : nar .char px2 = px2) (hc_px3 : nar .char px3 = px3) :
    Ow.Con l Z EL1 n0 my50 method_5_code 3 (Option.some Jvm.ClassFile.FieldType.boolean) [] ({ frames := 5, cells := 0, slots := 0, locals := 66 } : Room) #[(.ref pa0), (.ref pa1), (.int 2)] [] h0 (fun v h S' => (v = some (.int 1) ∧ h = h0 ∧ S' = [])) := by
 refine Ow.Con.enter (Ls := #[.val (.ref pa0), .val (.ref pa1), .val (.int 2)]) (plainFor_of_name pn5) O0 (hEW hw) (hSA hw) ?_
 intro p e s m below meth c B
 have z0 := Ow.old_le O0
 have lpa0 : (pa0 : Nat) < h0.size := hf0.lt
 have lpa1 : (pa1 : Nat) < h0.size := hf1.lt
 have lpa2 : (pa2 : Nat) < h0.size := hf0.ltt
 refine Ow.iloadN (pc' := 1) B e50_0 ?_
 refine Ow.iconst (pc' := 2) (x := 1) B e50_1 ?_
 refine Ow.icmpF (pc' := 5) B e50_2 (by decide) ?_
 refine Ow.aloadN (pc' := 6) B e50_5 ?_
 refine Ow.iconst (pc' := 7) (x := 0) B e50_6 ?_
 refine Ow.Go.old (fun o1 => ?_)
 refine Ow.callVirtual (pc' := 10) (W := 0) (k' := 0) (n' := 0) (argsL := [(.int 0)]) (rest := []) (K := "java/lang/String") B e50_7 (w176 hw) (w90 hw) (w92 hw) (w92 hw) (w91 hw) (w11 hw) (w93 hw) (hf0).1 (gCha hw G GS (j := 0) (x := px0) o1 hf0 rfl (by simp)) pd24 ?_
 intro vq2 h3 S4 q2 zh3
 obtain ⟨rfl, rfl, rfl⟩ := q2
 refine Ow.Go.nr (S' := []) (st' := [(.int px0)]) ?_
 refine Ow.aloadN (pc' := 11) B e50_10 ?_
 refine Ow.iconst (pc' := 12) (x := 0) B e50_11 ?_
 refine Ow.caload (pc' := 13) B e50_12 hf1 ⟨by decide, by decide⟩ rfl ?_
 refine Ow.icmpF (pc' := 16) B e50_13 (teq (rfl)).2 ?_
 refine Ow.iloadN (pc' := 17) B e50_16 ?_
 refine Ow.iconst (pc' := 18) (x := 2) B e50_17 ?_
 refine Ow.icmpF (pc' := 21) B e50_18 (by decide) ?_
 refine Ow.aloadN (pc' := 22) B e50_21 ?_
 refine Ow.iconst (pc' := 23) (x := 1) B e50_22 ?_
 refine Ow.Go.old (fun o5 => ?_)
 refine Ow.callVirtual (pc' := 26) (W := 0) (k' := 0) (n' := 0) (argsL := [(.int 1)]) (rest := []) (K := "java/lang/String") B e50_23 (w176 hw) (w90 hw) (w92 hw) (w92 hw) (w91 hw) (w11 hw) (w93 hw) (hf0).1 (gCha hw G GS (j := 1) (x := px1) o5 hf0 rfl (by simp)) pd24 ?_
 intro vq6 h7 S8 q6 zh7
 obtain ⟨rfl, rfl, rfl⟩ := q6
 refine Ow.Go.nr (S' := []) (st' := [(.int px1)]) ?_
 refine Ow.aloadN (pc' := 27) B e50_26 ?_
 refine Ow.iconst (pc' := 28) (x := 1) B e50_27 ?_
 refine Ow.caload (pc' := 29) B e50_28 hf1 ⟨by decide, by decide⟩ rfl ?_
 refine Ow.icmpF (pc' := 32) B e50_29 (teq (rfl)).2 ?_
 refine Ow.iloadN (pc' := 33) B e50_32 ?_
 refine Ow.iconst (pc' := 34) (x := 3) B e50_33 ?_
 refine Ow.icmpT (pc' := 48) B e50_34 (by decide) ?_
 refine Ow.iloadN (pc' := 49) B e50_48 ?_
 refine Ow.iconst (pc' := 50) (x := 4) B e50_49 ?_
 refine Ow.icmpT (pc' := 64) B e50_50 (by decide) ?_
 refine Ow.iconst (pc' := 65) (x := 1) B e50_64 ?_
 refine Ow.goto (pc' := 69) B e50_65 ?_
 exact Ow.retI (S' := []) (t := .boolean) B e50_69 (⟨rfl, rfl, rfl⟩)
set_option maxRecDepth 65536 in
set_option maxHeartbeats 40000000 in
theorem con_str_61 (hw : Hw a0 Z) (G : Ow.Glo Z cz sf) (GS : GlS Z) {pa0 : Nat} {px0 : Int32} {px1 : Int32} {px2 : Int32} {px3 : Int32} {pk0 : ClassId} {h0 : Heap} (O0 : Old Z n0 h0) (hf0 : Arv Z h0 pa0 pk0 .char (4 : Int32) [(.int px0), (.int px1), (.int px2), (.int px3)] (.int 0)) (hn0 : n0 ≤ pa0) (hk0 : ¬ (px0 < (0 : Int32))) (hk1 : ¬ ((65535 : Int32) < px0)) (hk2 : ¬ (px1 < (0 : Int32))) (hk3 : ¬ ((65535 : Int32) < px1)) (hk4 : ¬ (px2 < (0 : Int32))) (hk5 : ¬ ((65535 : Int32) < px2)) (hk6 : ¬ (px3 < (0 : Int32))) (hk7 : ¬ ((65535 : Int32) < px3)) (hc_px0 : nar .char px0 = px0) (hc_px1 : nar .char px1 = px1) (hc_px2 : nar .char px2 = px2) (hc_px3 : nar .char px3 = px3) :
    Ow.Con l Z EL1 n0 my36 method_3_code 2 (Option.some (Jvm.ClassFile.FieldType.object "java/lang/String")) [] ({ frames := 6, cells := 6, slots := 20, locals := 88 } : Room) #[(.int 4), (.ref pa0)] [] h0 (fun v h S' => (∃ r0 : Nat, ∃ r1 : Nat, ∃ k0 : ClassId, v = some (.ref r0) ∧ Keep h0 h [] ∧ h0.size ≤ r0 ∧ Ow.Chs Z h r0 r1 k0 [px0, px1, px2, px3] ∧ S' = [])) := by
 refine Ow.Con.enter (Ls := #[.val (.int 4), .val (.ref pa0)]) (plainFor_of_name pn5) O0 (hEW hw) (hSA hw) ?_
 intro p e s m below meth c B
 have z0 := Ow.old_le O0
 have lpa0 : (pa0 : Nat) < h0.size := hf0.lt
 refine Ow.iloadN (pc' := 1) B e36_0 ?_
 refine Ow.ifT (pc' := 15) B e36_1 (by decide) ?_
 refine Ow.iloadN (pc' := 16) B e36_15 ?_
 refine Ow.iconst (pc' := 17) (x := 1) B e36_16 ?_
 refine Ow.icmpT (pc' := 37) B e36_17 (by decide) ?_
 refine Ow.iloadN (pc' := 38) B e36_37 ?_
 refine Ow.iconst (pc' := 39) (x := 2) B e36_38 ?_
 refine Ow.icmpT (pc' := 65) B e36_39 (by decide) ?_
 refine Ow.iloadN (pc' := 66) B e36_65 ?_
 refine Ow.iconst (pc' := 67) (x := 3) B e36_66 ?_
 refine Ow.icmpT (pc' := 99) B e36_67 (by decide) ?_
 refine Ow.newObj (pc' := 102) (k' := 1) (n' := 4) B e36_99 (w9 hw) (w10 hw) (w11 hw) ?_
 intro h2 a1 ga1 ba1 Kh2 Aa1 Da1
 have zh2 := Kh2.1
 have la1 : (a1 : Nat) < h2.size := Aa1.lt
 have f3 : Fld Z h2 a1 "java/lang/String" "value" "[B" .null := Da1 (Or.inr (w24 hw)) (ty := (.array .byte)) (by decide)
 have f4 : Fld Z h2 a1 "java/lang/String" "coder" "B" (.int 0) := Da1 (Or.inr (w25 hw)) (ty := .byte) (by decide)
 refine Ow.dup (pc' := 103) B e36_102 ?_
 refine Ow.iconst (pc' := 104) (x := 4) B e36_103 ?_
 refine Ow.newArr (pc' := 106) (k' := 2) (n' := 8) (cap := 4) B e36_104 (w1 hw) (by decide) (by decide) ?_
 intro h6 a5 ka5 ga5 ba5 Kh6 V0a5
 have zh6 := Kh6.1
 have la5 : (a5 : Nat) < h6.size := V0a5.lt
 have Va5 : Arv Z h6 a5 ka5 .char (4 : Int32) [(.int 0), (.int 0), (.int 0), (.int 0)] (.int 0) := V0a5.pad (pad_rep [] (.int 0) 4)
 refine Ow.dup (pc' := 107) B e36_106 ?_
 refine Ow.iconst (pc' := 108) (x := 0) B e36_107 ?_
 refine Ow.aloadN (pc' := 109) B e36_108 ?_
 refine Ow.iconst (pc' := 110) (x := 0) B e36_109 ?_
 have f7 := hf0.keep Kh2 Ow.nin0
 have f8 := f7.keep Kh6 Ow.nin0
 refine Ow.caload (pc' := 111) B e36_110 f8 ⟨by decide, by decide⟩ rfl ?_
 refine Ow.castore (pc' := 112) (i := 0) B e36_111 Va5 ⟨by decide, by decide⟩ ?_
 intro h9 Kh9 V0h9
 have zh9 := Kh9.1
 have V10 : Arv Z h9 a5 ka5 .char (4 : Int32) [(.int px0), (.int 0), (.int 0), (.int 0)] (.int 0) := (by have e0 := V0h9; rw [show nar .char px0 = px0 from hc_px0] at e0; exact e0)
 refine Ow.dup (pc' := 113) B e36_112 ?_
 refine Ow.iconst (pc' := 114) (x := 1) B e36_113 ?_
 refine Ow.aloadN (pc' := 115) B e36_114 ?_
 refine Ow.iconst (pc' := 116) (x := 1) B e36_115 ?_
 have f11 := f8.keep Kh9 (Ow.ninS (by omega) Ow.nin0)
 refine Ow.caload (pc' := 117) B e36_116 f11 ⟨by decide, by decide⟩ rfl ?_
 refine Ow.castore (pc' := 118) (i := 1) B e36_117 V10 ⟨by decide, by decide⟩ ?_
 intro h12 Kh12 V0h12
 have zh12 := Kh12.1
 have V13 : Arv Z h12 a5 ka5 .char (4 : Int32) [(.int px0), (.int px1), (.int 0), (.int 0)] (.int 0) := (by have e0 := V0h12; rw [show nar .char px1 = px1 from hc_px1] at e0; exact e0)
 refine Ow.dup (pc' := 119) B e36_118 ?_
 refine Ow.iconst (pc' := 120) (x := 2) B e36_119 ?_
 refine Ow.aloadN (pc' := 121) B e36_120 ?_
 refine Ow.iconst (pc' := 122) (x := 2) B e36_121 ?_
 have f14 := f11.keep Kh12 (Ow.ninS (by omega) Ow.nin0)
 refine Ow.caload (pc' := 123) B e36_122 f14 ⟨by decide, by decide⟩ rfl ?_
 refine Ow.castore (pc' := 124) (i := 2) B e36_123 V13 ⟨by decide, by decide⟩ ?_
 intro h15 Kh15 V0h15
 have zh15 := Kh15.1
 have V16 : Arv Z h15 a5 ka5 .char (4 : Int32) [(.int px0), (.int px1), (.int px2), (.int 0)] (.int 0) := (by have e0 := V0h15; rw [show nar .char px2 = px2 from hc_px2] at e0; exact e0)
 refine Ow.dup (pc' := 125) B e36_124 ?_
 refine Ow.iconst (pc' := 126) (x := 3) B e36_125 ?_
 refine Ow.aloadN (pc' := 127) B e36_126 ?_
 refine Ow.iconst (pc' := 128) (x := 3) B e36_127 ?_
 have f17 := f14.keep Kh15 (Ow.ninS (by omega) Ow.nin0)
 refine Ow.caload (pc' := 129) B e36_128 f17 ⟨by decide, by decide⟩ rfl ?_
 refine Ow.castore (pc' := 130) (i := 3) B e36_129 V16 ⟨by decide, by decide⟩ ?_
 intro h18 Kh18 V0h18
 have zh18 := Kh18.1
 have V19 : Arv Z h18 a5 ka5 .char (4 : Int32) [(.int px0), (.int px1), (.int px2), (.int px3)] (.int 0) := (by have e0 := V0h18; rw [show nar .char px3 = px3 from hc_px3] at e0; exact e0)
 have f20 := Aa1.keep Kh6
 have f21 := f20.keep Kh9
 have f22 := f21.keep Kh12
 have f23 := f22.keep Kh15
 have f24 := f23.keep Kh18
 have f25 := f3.keep Kh6 Ow.nin0
 have f26 := f25.keep Kh9 (Ow.ninS (by omega) Ow.nin0)
 have f27 := f26.keep Kh12 (Ow.ninS (by omega) Ow.nin0)
 have f28 := f27.keep Kh15 (Ow.ninS (by omega) Ow.nin0)
 have f29 := f28.keep Kh18 (Ow.ninS (by omega) Ow.nin0)
 have f30 := f4.keep Kh6 Ow.nin0
 have f31 := f30.keep Kh9 (Ow.ninS (by omega) Ow.nin0)
 have f32 := f31.keep Kh12 (Ow.ninS (by omega) Ow.nin0)
 have f33 := f32.keep Kh15 (Ow.ninS (by omega) Ow.nin0)
 have f34 := f33.keep Kh18 (Ow.ninS (by omega) Ow.nin0)
 refine Ow.Go.old (fun o35 => ?_)
 refine Ow.callInit (pc' := 133) (W := 1) (k' := 6) (n' := 20) (argsL := [(.ref a5)]) (rest := [(.ref a1)]) B e36_130 (w12 hw) (w13 hw) (w11 hw) (w14 hw) (gIni hw G GS (cs := [px0, px1, px2, px3]) o35 V19 f24 f29 f34 (by omega) (by omega) (Ow.allI ⟨hk0, hk1⟩ (Ow.allI ⟨hk2, hk3⟩ (Ow.allI ⟨hk4, hk5⟩ (Ow.allI ⟨hk6, hk7⟩ Ow.allI0)))) (by simp) (by simp)) pd25 ?_
 intro vq36 h37 S38 q36 zh37
 obtain ⟨t39, k40, rfl, Kh37, f41, rfl⟩ := q36
 have lt39 : (t39 : Nat) < h37.size := f41.ltt
 refine Ow.Go.nr (S' := [a5, a1]) (st' := [(.ref a1)]) ?_
 exact Ow.retA (S' := []) (t := (.object "java/lang/String")) B e36_133 (⟨a1, t39, k40, rfl, ((((((((Keep.refl _ []).trans Kh2 (fun _ q => nomatch q)).trans Kh6 (fun _ q => nomatch q)).trans Kh9 (allS (Or.inr (by omega)) all0)).trans Kh12 (allS (Or.inr (by omega)) all0)).trans Kh15 (allS (Or.inr (by omega)) all0)).trans Kh18 (allS (Or.inr (by omega)) all0)).trans Kh37 (allS (Or.inr (by omega)) all0)), (by omega), f41, rfl⟩)
set_option maxRecDepth 65536 in
set_option maxHeartbeats 40000000 in
theorem con_endBeforeSpaces_62 (hw : Hw a0 Z) (G : Ow.Glo Z cz sf) (GS : GlS Z) {pa0 : Nat} {pa1 : Nat} {pa2 : Nat} {px0 : Int32} {px1 : Int32} {px2 : Int32} {px3 : Int32} {pk0 : ClassId} {h0 : Heap} (O0 : Old Z n0 h0) (hf0 : Fld Z h0 pa0 "com/example/elsewhere/elsewhere/Field$Subfield" "value" "Ljava/lang/String;" (.ref pa1)) (hf1 : Ow.Chs Z h0 pa1 pa2 pk0 [px0, px1, px2, px3]) (hn0 : n0 ≤ pa0) (hn1 : n0 ≤ pa1) (hc_px0 : nar .char px0 = px0) (hc_px1 : nar .char px1 = px1) (hc_px2 : nar .char px2 = px2) (hc_px3 : nar .char px3 = px3) :
    Ow.Con l Z EL1 n0 my39 prog_11_method_5_code 4 (Option.some Jvm.ClassFile.FieldType.int) [] ({ frames := 5, cells := 0, slots := 0, locals := 66 } : Room) #[(.ref pa0), (.int 0), (.int 4)] [] h0 (fun v h S' => (v = some (.int 0) ∧ h = h0 ∧ px3 = (32 : Int32) ∧ px2 = (32 : Int32) ∧ px1 = (32 : Int32) ∧ px0 = (32 : Int32) ∧ S' = []) ∨ (v = some (.int 1) ∧ h = h0 ∧ px3 = (32 : Int32) ∧ px2 = (32 : Int32) ∧ px1 = (32 : Int32) ∧ ¬ (px0 = (32 : Int32)) ∧ S' = []) ∨ (v = some (.int 2) ∧ h = h0 ∧ px3 = (32 : Int32) ∧ px2 = (32 : Int32) ∧ ¬ (px1 = (32 : Int32)) ∧ S' = []) ∨ (v = some (.int 3) ∧ h = h0 ∧ px3 = (32 : Int32) ∧ ¬ (px2 = (32 : Int32)) ∧ S' = []) ∨ (v = some (.int 4) ∧ h = h0 ∧ ¬ (px3 = (32 : Int32)) ∧ S' = [])) := by
 refine Ow.Con.enter (Ls := #[.val (.ref pa0), .val (.int 0), .val (.int 4), .unset]) (plainFor_of_name pn6) O0 (hEW hw) (hSA hw) ?_
 intro p e s m below meth c B
 have z0 := Ow.old_le O0
 have lpa0 : (pa0 : Nat) < h0.size := hf0.lt
 have lpa1 : (pa1 : Nat) < h0.size := hf1.lt
 have lpa2 : (pa2 : Nat) < h0.size := hf1.ltt
 refine Ow.iloadN (pc' := 1) B e40_0 ?_
 refine Ow.istoreN (pc' := 2) (Ls' := #[.val (.ref pa0), .val (.int 0), .val (.int 4), .val (.int 4)]) B e40_1 ?_
 refine Ow.iloadN (pc' := 3) B e40_2 ?_
 refine Ow.iloadN (pc' := 4) B e40_3 ?_
 refine Ow.icmpF (pc' := 7) B e40_4 (by decide) ?_
 refine Ow.aloadN (pc' := 8) B e40_7 ?_
 refine Ow.getfield (pc' := 11) B e40_8 (w44 hw) Via.refl hf0 ?_
 refine Ow.iloadN (pc' := 12) B e40_11 ?_
 refine Ow.iconst (pc' := 13) (x := 1) B e40_12 ?_
 refine Ow.isub (pc' := 14) (z := 3) B e40_13 ?_
 refine Ow.Go.old (fun o1 => ?_)
 refine Ow.callVirtual (pc' := 17) (W := 0) (k' := 0) (n' := 0) (argsL := [(.int 3)]) (rest := []) (K := "java/lang/String") B e40_14 (w89 hw) (w90 hw) (w92 hw) (w92 hw) (w91 hw) (w11 hw) (w93 hw) (hf1).1 (gCha hw G GS (j := 3) (x := px3) o1 hf1 rfl (by simp)) pd24 ?_
 intro vq2 h3 S4 q2 zh3
 obtain ⟨rfl, rfl, rfl⟩ := q2
 refine Ow.Go.nr (S' := []) (st' := [(.int px3)]) ?_
 refine Ow.bipush (pc' := 19) (x := 32) B e40_17 ?_
 by_cases c5 : px3 = (32 : Int32)
 ·refine Ow.icmpF (pc' := 22) B e40_19 (teq c5).2 ?_
  refine Ow.iinc (pc' := 25) (y := 3) (Ls' := #[.val (.ref pa0), .val (.int 0), .val (.int 4), .val (.int 3)]) B e40_22 ?_
  refine Ow.goto (pc' := 2) B e40_25 ?_
  refine Ow.iloadN (pc' := 3) B e40_2 ?_
  refine Ow.iloadN (pc' := 4) B e40_3 ?_
  refine Ow.icmpF (pc' := 7) B e40_4 (by decide) ?_
  refine Ow.aloadN (pc' := 8) B e40_7 ?_
  refine Ow.getfield (pc' := 11) B e40_8 (w44 hw) Via.refl hf0 ?_
  refine Ow.iloadN (pc' := 12) B e40_11 ?_
  refine Ow.iconst (pc' := 13) (x := 1) B e40_12 ?_
  refine Ow.isub (pc' := 14) (z := 2) B e40_13 ?_
  refine Ow.Go.old (fun o6 => ?_)
  refine Ow.callVirtual (pc' := 17) (W := 0) (k' := 0) (n' := 0) (argsL := [(.int 2)]) (rest := []) (K := "java/lang/String") B e40_14 (w89 hw) (w90 hw) (w92 hw) (w92 hw) (w91 hw) (w11 hw) (w93 hw) (hf1).1 (gCha hw G GS (j := 2) (x := px2) o6 hf1 rfl (by simp)) pd24 ?_
  intro vq7 h8 S9 q7 zh8
  obtain ⟨rfl, rfl, rfl⟩ := q7
  refine Ow.Go.nr (S' := []) (st' := [(.int px2)]) ?_
  refine Ow.bipush (pc' := 19) (x := 32) B e40_17 ?_
  by_cases c10 : px2 = (32 : Int32)
  ·refine Ow.icmpF (pc' := 22) B e40_19 (teq c10).2 ?_
   refine Ow.iinc (pc' := 25) (y := 2) (Ls' := #[.val (.ref pa0), .val (.int 0), .val (.int 4), .val (.int 2)]) B e40_22 ?_
   refine Ow.goto (pc' := 2) B e40_25 ?_
   refine Ow.iloadN (pc' := 3) B e40_2 ?_
   refine Ow.iloadN (pc' := 4) B e40_3 ?_
   refine Ow.icmpF (pc' := 7) B e40_4 (by decide) ?_
   refine Ow.aloadN (pc' := 8) B e40_7 ?_
   refine Ow.getfield (pc' := 11) B e40_8 (w44 hw) Via.refl hf0 ?_
   refine Ow.iloadN (pc' := 12) B e40_11 ?_
   refine Ow.iconst (pc' := 13) (x := 1) B e40_12 ?_
   refine Ow.isub (pc' := 14) (z := 1) B e40_13 ?_
   refine Ow.Go.old (fun o11 => ?_)
   refine Ow.callVirtual (pc' := 17) (W := 0) (k' := 0) (n' := 0) (argsL := [(.int 1)]) (rest := []) (K := "java/lang/String") B e40_14 (w89 hw) (w90 hw) (w92 hw) (w92 hw) (w91 hw) (w11 hw) (w93 hw) (hf1).1 (gCha hw G GS (j := 1) (x := px1) o11 hf1 rfl (by simp)) pd24 ?_
   intro vq12 h13 S14 q12 zh13
   obtain ⟨rfl, rfl, rfl⟩ := q12
   refine Ow.Go.nr (S' := []) (st' := [(.int px1)]) ?_
   refine Ow.bipush (pc' := 19) (x := 32) B e40_17 ?_
   by_cases c15 : px1 = (32 : Int32)
   ·refine Ow.icmpF (pc' := 22) B e40_19 (teq c15).2 ?_
    refine Ow.iinc (pc' := 25) (y := 1) (Ls' := #[.val (.ref pa0), .val (.int 0), .val (.int 4), .val (.int 1)]) B e40_22 ?_
    refine Ow.goto (pc' := 2) B e40_25 ?_
    refine Ow.iloadN (pc' := 3) B e40_2 ?_
    refine Ow.iloadN (pc' := 4) B e40_3 ?_
    refine Ow.icmpF (pc' := 7) B e40_4 (by decide) ?_
    refine Ow.aloadN (pc' := 8) B e40_7 ?_
    refine Ow.getfield (pc' := 11) B e40_8 (w44 hw) Via.refl hf0 ?_
    refine Ow.iloadN (pc' := 12) B e40_11 ?_
    refine Ow.iconst (pc' := 13) (x := 1) B e40_12 ?_
    refine Ow.isub (pc' := 14) (z := 0) B e40_13 ?_
    refine Ow.Go.old (fun o16 => ?_)
    refine Ow.callVirtual (pc' := 17) (W := 0) (k' := 0) (n' := 0) (argsL := [(.int 0)]) (rest := []) (K := "java/lang/String") B e40_14 (w89 hw) (w90 hw) (w92 hw) (w92 hw) (w91 hw) (w11 hw) (w93 hw) (hf1).1 (gCha hw G GS (j := 0) (x := px0) o16 hf1 rfl (by simp)) pd24 ?_
    intro vq17 h18 S19 q17 zh18
    obtain ⟨rfl, rfl, rfl⟩ := q17
    refine Ow.Go.nr (S' := []) (st' := [(.int px0)]) ?_
    refine Ow.bipush (pc' := 19) (x := 32) B e40_17 ?_
    by_cases c20 : px0 = (32 : Int32)
    ·refine Ow.icmpF (pc' := 22) B e40_19 (teq c20).2 ?_
     refine Ow.iinc (pc' := 25) (y := 0) (Ls' := #[.val (.ref pa0), .val (.int 0), .val (.int 4), .val (.int 0)]) B e40_22 ?_
     refine Ow.goto (pc' := 2) B e40_25 ?_
     refine Ow.iloadN (pc' := 3) B e40_2 ?_
     refine Ow.iloadN (pc' := 4) B e40_3 ?_
     refine Ow.icmpT (pc' := 28) B e40_4 (by decide) ?_
     refine Ow.iloadN (pc' := 29) B e40_28 ?_
     exact Ow.retI (S' := []) (t := .int) B e40_29 (Or.inl (⟨rfl, rfl, c5, c10, c15, c20, rfl⟩))
    ·refine Ow.icmpT (pc' := 28) B e40_19 (feq c20).2 ?_
     refine Ow.iloadN (pc' := 29) B e40_28 ?_
     exact Ow.retI (S' := []) (t := .int) B e40_29 (Or.inr (Or.inl (⟨rfl, rfl, c5, c10, c15, c20, rfl⟩)))
   ·refine Ow.icmpT (pc' := 28) B e40_19 (feq c15).2 ?_
    refine Ow.iloadN (pc' := 29) B e40_28 ?_
    exact Ow.retI (S' := []) (t := .int) B e40_29 (Or.inr (Or.inr (Or.inl (⟨rfl, rfl, c5, c10, c15, rfl⟩))))
  ·refine Ow.icmpT (pc' := 28) B e40_19 (feq c10).2 ?_
   refine Ow.iloadN (pc' := 29) B e40_28 ?_
   exact Ow.retI (S' := []) (t := .int) B e40_29 (Or.inr (Or.inr (Or.inr (Or.inl (⟨rfl, rfl, c5, c10, rfl⟩)))))
 ·refine Ow.icmpT (pc' := 28) B e40_19 (feq c5).2 ?_
  refine Ow.iloadN (pc' := 29) B e40_28 ?_
  exact Ow.retI (S' := []) (t := .int) B e40_29 (Or.inr (Or.inr (Or.inr (Or.inr (⟨rfl, rfl, c5, rfl⟩)))))
set_option maxRecDepth 65536 in
set_option maxHeartbeats 40000000 in
theorem con_endBeforeSeparator_63 (hw : Hw a0 Z) (G : Ow.Glo Z cz sf) (GS : GlS Z) {pa0 : Nat} {pa1 : Nat} {pa2 : Nat} {px0 : Int32} {px1 : Int32} {px2 : Int32} {px3 : Int32} {pk0 : ClassId} {h0 : Heap} (O0 : Old Z n0 h0) (hf0 : Exa Z h0 pa0 "com/example/elsewhere/elsewhere/Field$Subfield") (hf1 : Fld Z h0 pa0 "com/example/elsewhere/elsewhere/Field$Subfield" "value" "Ljava/lang/String;" (.ref pa1)) (hf2 : Ow.Chs Z h0 pa1 pa2 pk0 [px0, px1, px2, px3]) (hn0 : n0 ≤ pa0) (hn1 : n0 ≤ pa1) (hk0 : ¬ (px0 < (0 : Int32))) (hc_px0 : nar .char px0 = px0) (hc_px1 : nar .char px1 = px1) (hc_px2 : nar .char px2 = px2) (hc_px3 : nar .char px3 = px3) :
    Ow.Con l Z EL1 n0 my40 prog_11_method_4_code 3 (Option.some Jvm.ClassFile.FieldType.int) [] ({ frames := 5, cells := 2, slots := 16, locals := 67 } : Room) #[(.ref pa0), (.int 0), (.int 1)] [] h0 (fun v h S' => (v = some (.int 1) ∧ Keep h0 h [] ∧ ¬ (sepP px0) ∧ S' = []) ∨ (v = some (.int 0) ∧ Keep h0 h [] ∧ sepP px0 ∧ S' = [])) := by
 refine Ow.Con.enter (Ls := #[.val (.ref pa0), .val (.int 0), .val (.int 1)]) (plainFor_of_name pn6) O0 (hEW hw) (hSA hw) ?_
 intro p e s m below meth c B
 have z0 := Ow.old_le O0
 have lpa0 : (pa0 : Nat) < h0.size := hf0.lt
 have lpa1 : (pa1 : Nat) < h0.size := hf2.lt
 have lpa2 : (pa2 : Nat) < h0.size := hf2.ltt
 refine Ow.iloadN (pc' := 1) B e41_0 ?_
 refine Ow.iloadN (pc' := 2) B e41_1 ?_
 refine Ow.icmpF (pc' := 5) B e41_2 (by decide) ?_
 refine Ow.ldcText (pc' := 7) (k' := 2) (n' := 16) (nn := 12) (vs := [(.int 59), (.int 44), (.int 58)]) (z := 3) B e41_5 (w111 hw) (by decide) ⟨by decide, by decide⟩ (by decide) (by decide) ?_
 intro h2 a1 t3 kt3 Kh2 Ea1 Ca1 Va1 At3 Na1
 have zh2 := Kh2.1
 have la1 : (a1 : Nat) < h2.size := Ea1.lt
 have lt3 : (t3 : Nat) < h2.size := At3.lt
 refine Ow.aloadN (pc' := 8) B e41_7 ?_
 have f4 := hf1.keep Kh2 Ow.nin0
 refine Ow.getfield (pc' := 11) B e41_8 (w44 hw) Via.refl f4 ?_
 refine Ow.iloadN (pc' := 12) B e41_11 ?_
 refine Ow.iconst (pc' := 13) (x := 1) B e41_12 ?_
 refine Ow.isub (pc' := 14) (z := 0) B e41_13 ?_
 have f5 := hf2.keep Kh2 Ow.nin0 Ow.nin0
 refine Ow.Go.old (fun o6 => ?_)
 refine Ow.callVirtual (pc' := 17) (W := 1) (k' := 2) (n' := 16) (argsL := [(.int 0)]) (rest := [(.ref a1)]) (K := "java/lang/String") B e41_14 (w89 hw) (w90 hw) (w92 hw) (w92 hw) (w91 hw) (w11 hw) (w93 hw) (f5).1 (gCha hw G GS (j := 0) (x := px0) o6 f5 rfl (by simp)) pd24 ?_
 intro vq7 h8 S9 q7 zh8
 obtain ⟨rfl, rfl, rfl⟩ := q7
 refine Ow.Go.nr (S' := []) (st' := [(.int px0), (.ref a1)]) ?_
 refine Ow.Go.old (fun o10 => ?_)
 refine Ow.callVirtual (pc' := 20) (W := 0) (k' := 2) (n' := 16) (argsL := [(.int px0)]) (rest := []) (K := "java/lang/String") B e41_17 (w112 hw) (w113 hw) (w115 hw) (w115 hw) (w114 hw) (w11 hw) (w116 hw) Ea1 (con_indexOf_32 hw G GS (pa0 := a1) (pa1 := t3) (px0 := px0) (pk0 := kt3) o10 Ea1 Ca1 Va1 At3 (hk0) hc_px0) pd0 ?_
 intro vq11 h12 S13 q11 zh12
 rcases q11 with q11 | q11
 ·obtain ⟨y14, rfl, rfl, c15, c16, rfl⟩ := q11
  refine Ow.Go.nr (S' := []) (st' := [(.int y14)]) ?_
  refine Ow.ifT (pc' := 34) B e41_20 (tlt (c16)).1 ?_
  refine Ow.iloadN (pc' := 35) B e41_34 ?_
  exact Ow.retI (S' := []) (t := .int) B e41_35 (Or.inl (⟨rfl, ((Keep.refl _ []).trans Kh2 (fun _ q => nomatch q)), c15, rfl⟩))
 ·obtain ⟨y17, rfl, rfl, c18, c19, rfl⟩ := q11
  refine Ow.Go.nr (S' := []) (st' := [(.int y17)]) ?_
  refine Ow.ifF (pc' := 23) B e41_20 (flt (c19)).1 ?_
  refine Ow.aloadN (pc' := 24) B e41_23 ?_
  refine Ow.iloadN (pc' := 25) B e41_24 ?_
  refine Ow.iloadN (pc' := 26) B e41_25 ?_
  refine Ow.iconst (pc' := 27) (x := 1) B e41_26 ?_
  refine Ow.isub (pc' := 28) (z := 0) B e41_27 ?_
  refine Ow.Go.old (fun o20 => ?_)
  have f21 := hf0.keep Kh2
  refine Ow.callPrivate (pc' := 31) (W := 0) (k' := 2) (n' := 16) (argsL := [(.int 0), (.int 0)]) (rest := []) (K := "com/example/elsewhere/elsewhere/Field$Subfield") B e41_28 (w62 hw) (w63 hw) (w64 hw) (w31 hw) (w32 hw) (w65 hw) f21 (con_endBeforeSpaces_18 hw G GS (pa0 := pa0) o20) pd14 ?_
  intro vq22 h23 S24 q22 zh23
  obtain ⟨rfl, rfl, rfl⟩ := q22
  refine Ow.Go.nr (S' := []) (st' := [(.int 0)]) ?_
  refine Ow.goto (pc' := 35) B e41_31 ?_
  exact Ow.retI (S' := []) (t := .int) B e41_35 (Or.inr (⟨rfl, ((Keep.refl _ []).trans Kh2 (fun _ q => nomatch q)), c18, rfl⟩))
set_option maxRecDepth 65536 in
set_option maxHeartbeats 40000000 in
theorem con_endBeforeSpaces_64 (hw : Hw a0 Z) (G : Ow.Glo Z cz sf) (GS : GlS Z) {pa0 : Nat} {pa1 : Nat} {pa2 : Nat} {px0 : Int32} {px1 : Int32} {px2 : Int32} {px3 : Int32} {pk0 : ClassId} {h0 : Heap} (O0 : Old Z n0 h0) (hf0 : Fld Z h0 pa0 "com/example/elsewhere/elsewhere/Field$Subfield" "value" "Ljava/lang/String;" (.ref pa1)) (hf1 : Ow.Chs Z h0 pa1 pa2 pk0 [px0, px1, px2, px3]) (hn0 : n0 ≤ pa0) (hn1 : n0 ≤ pa1) (hc_px0 : nar .char px0 = px0) (hc_px1 : nar .char px1 = px1) (hc_px2 : nar .char px2 = px2) (hc_px3 : nar .char px3 = px3) :
    Ow.Con l Z EL1 n0 my39 prog_11_method_5_code 4 (Option.some Jvm.ClassFile.FieldType.int) [] ({ frames := 5, cells := 0, slots := 0, locals := 66 } : Room) #[(.ref pa0), (.int 0), (.int 1)] [] h0 (fun v h S' => (v = some (.int 0) ∧ h = h0 ∧ px0 = (32 : Int32) ∧ S' = []) ∨ (v = some (.int 1) ∧ h = h0 ∧ ¬ (px0 = (32 : Int32)) ∧ S' = [])) := by
 refine Ow.Con.enter (Ls := #[.val (.ref pa0), .val (.int 0), .val (.int 1), .unset]) (plainFor_of_name pn6) O0 (hEW hw) (hSA hw) ?_
 intro p e s m below meth c B
 have z0 := Ow.old_le O0
 have lpa0 : (pa0 : Nat) < h0.size := hf0.lt
 have lpa1 : (pa1 : Nat) < h0.size := hf1.lt
 have lpa2 : (pa2 : Nat) < h0.size := hf1.ltt
 refine Ow.iloadN (pc' := 1) B e40_0 ?_
 refine Ow.istoreN (pc' := 2) (Ls' := #[.val (.ref pa0), .val (.int 0), .val (.int 1), .val (.int 1)]) B e40_1 ?_
 refine Ow.iloadN (pc' := 3) B e40_2 ?_
 refine Ow.iloadN (pc' := 4) B e40_3 ?_
 refine Ow.icmpF (pc' := 7) B e40_4 (by decide) ?_
 refine Ow.aloadN (pc' := 8) B e40_7 ?_
 refine Ow.getfield (pc' := 11) B e40_8 (w44 hw) Via.refl hf0 ?_
 refine Ow.iloadN (pc' := 12) B e40_11 ?_
 refine Ow.iconst (pc' := 13) (x := 1) B e40_12 ?_
 refine Ow.isub (pc' := 14) (z := 0) B e40_13 ?_
 refine Ow.Go.old (fun o1 => ?_)
 refine Ow.callVirtual (pc' := 17) (W := 0) (k' := 0) (n' := 0) (argsL := [(.int 0)]) (rest := []) (K := "java/lang/String") B e40_14 (w89 hw) (w90 hw) (w92 hw) (w92 hw) (w91 hw) (w11 hw) (w93 hw) (hf1).1 (gCha hw G GS (j := 0) (x := px0) o1 hf1 rfl (by simp)) pd24 ?_
 intro vq2 h3 S4 q2 zh3
 obtain ⟨rfl, rfl, rfl⟩ := q2
 refine Ow.Go.nr (S' := []) (st' := [(.int px0)]) ?_
 refine Ow.bipush (pc' := 19) (x := 32) B e40_17 ?_
 by_cases c5 : px0 = (32 : Int32)
 ·refine Ow.icmpF (pc' := 22) B e40_19 (teq c5).2 ?_
  refine Ow.iinc (pc' := 25) (y := 0) (Ls' := #[.val (.ref pa0), .val (.int 0), .val (.int 1), .val (.int 0)]) B e40_22 ?_
  refine Ow.goto (pc' := 2) B e40_25 ?_
  refine Ow.iloadN (pc' := 3) B e40_2 ?_
  refine Ow.iloadN (pc' := 4) B e40_3 ?_
  refine Ow.icmpT (pc' := 28) B e40_4 (by decide) ?_
  refine Ow.iloadN (pc' := 29) B e40_28 ?_
  exact Ow.retI (S' := []) (t := .int) B e40_29 (Or.inl (⟨rfl, rfl, c5, rfl⟩))
 ·refine Ow.icmpT (pc' := 28) B e40_19 (feq c5).2 ?_
  refine Ow.iloadN (pc' := 29) B e40_28 ?_
  exact Ow.retI (S' := []) (t := .int) B e40_29 (Or.inr (⟨rfl, rfl, c5, rfl⟩))
set_option maxRecDepth 65536 in
set_option maxHeartbeats 40000000 in
theorem con_endBeforeSeparator_65 (hw : Hw a0 Z) (G : Ow.Glo Z cz sf) (GS : GlS Z) {pa0 : Nat} {pa1 : Nat} {pa2 : Nat} {px0 : Int32} {px1 : Int32} {px2 : Int32} {px3 : Int32} {pk0 : ClassId} {h0 : Heap} (O0 : Old Z n0 h0) (hf0 : Exa Z h0 pa0 "com/example/elsewhere/elsewhere/Field$Subfield") (hf1 : Fld Z h0 pa0 "com/example/elsewhere/elsewhere/Field$Subfield" "value" "Ljava/lang/String;" (.ref pa1)) (hf2 : Ow.Chs Z h0 pa1 pa2 pk0 [px0, px1, px2, px3]) (hn0 : n0 ≤ pa0) (hn1 : n0 ≤ pa1) (hk0 : ¬ (px1 < (0 : Int32))) (hc_px0 : nar .char px0 = px0) (hc_px1 : nar .char px1 = px1) (hc_px2 : nar .char px2 = px2) (hc_px3 : nar .char px3 = px3) :
    Ow.Con l Z EL1 n0 my40 prog_11_method_4_code 3 (Option.some Jvm.ClassFile.FieldType.int) [] ({ frames := 6, cells := 2, slots := 16, locals := 81 } : Room) #[(.ref pa0), (.int 0), (.int 2)] [] h0 (fun v h S' => (v = some (.int 2) ∧ Keep h0 h [] ∧ ¬ (sepP px1) ∧ S' = []) ∨ (v = some (.int 0) ∧ Keep h0 h [] ∧ sepP px1 ∧ px0 = (32 : Int32) ∧ S' = []) ∨ (v = some (.int 1) ∧ Keep h0 h [] ∧ sepP px1 ∧ ¬ (px0 = (32 : Int32)) ∧ S' = [])) := by
 refine Ow.Con.enter (Ls := #[.val (.ref pa0), .val (.int 0), .val (.int 2)]) (plainFor_of_name pn6) O0 (hEW hw) (hSA hw) ?_
 intro p e s m below meth c B
 have z0 := Ow.old_le O0
 have lpa0 : (pa0 : Nat) < h0.size := hf0.lt
 have lpa1 : (pa1 : Nat) < h0.size := hf2.lt
 have lpa2 : (pa2 : Nat) < h0.size := hf2.ltt
 refine Ow.iloadN (pc' := 1) B e41_0 ?_
 refine Ow.iloadN (pc' := 2) B e41_1 ?_
 refine Ow.icmpF (pc' := 5) B e41_2 (by decide) ?_
 refine Ow.ldcText (pc' := 7) (k' := 2) (n' := 16) (nn := 12) (vs := [(.int 59), (.int 44), (.int 58)]) (z := 3) B e41_5 (w111 hw) (by decide) ⟨by decide, by decide⟩ (by decide) (by decide) ?_
 intro h2 a1 t3 kt3 Kh2 Ea1 Ca1 Va1 At3 Na1
 have zh2 := Kh2.1
 have la1 : (a1 : Nat) < h2.size := Ea1.lt
 have lt3 : (t3 : Nat) < h2.size := At3.lt
 refine Ow.aloadN (pc' := 8) B e41_7 ?_
 have f4 := hf1.keep Kh2 Ow.nin0
 refine Ow.getfield (pc' := 11) B e41_8 (w44 hw) Via.refl f4 ?_
 refine Ow.iloadN (pc' := 12) B e41_11 ?_
 refine Ow.iconst (pc' := 13) (x := 1) B e41_12 ?_
 refine Ow.isub (pc' := 14) (z := 1) B e41_13 ?_
 have f5 := hf2.keep Kh2 Ow.nin0 Ow.nin0
 refine Ow.Go.old (fun o6 => ?_)
 refine Ow.callVirtual (pc' := 17) (W := 1) (k' := 2) (n' := 16) (argsL := [(.int 1)]) (rest := [(.ref a1)]) (K := "java/lang/String") B e41_14 (w89 hw) (w90 hw) (w92 hw) (w92 hw) (w91 hw) (w11 hw) (w93 hw) (f5).1 (gCha hw G GS (j := 1) (x := px1) o6 f5 rfl (by simp)) pd24 ?_
 intro vq7 h8 S9 q7 zh8
 obtain ⟨rfl, rfl, rfl⟩ := q7
 refine Ow.Go.nr (S' := []) (st' := [(.int px1), (.ref a1)]) ?_
 refine Ow.Go.old (fun o10 => ?_)
 refine Ow.callVirtual (pc' := 20) (W := 0) (k' := 2) (n' := 16) (argsL := [(.int px1)]) (rest := []) (K := "java/lang/String") B e41_17 (w112 hw) (w113 hw) (w115 hw) (w115 hw) (w114 hw) (w11 hw) (w116 hw) Ea1 (con_indexOf_32 hw G GS (pa0 := a1) (pa1 := t3) (px0 := px1) (pk0 := kt3) o10 Ea1 Ca1 Va1 At3 (hk0) hc_px1) pd0 ?_
 intro vq11 h12 S13 q11 zh12
 rcases q11 with q11 | q11
 ·obtain ⟨y14, rfl, rfl, c15, c16, rfl⟩ := q11
  refine Ow.Go.nr (S' := []) (st' := [(.int y14)]) ?_
  refine Ow.ifT (pc' := 34) B e41_20 (tlt (c16)).1 ?_
  refine Ow.iloadN (pc' := 35) B e41_34 ?_
  exact Ow.retI (S' := []) (t := .int) B e41_35 (Or.inl (⟨rfl, ((Keep.refl _ []).trans Kh2 (fun _ q => nomatch q)), c15, rfl⟩))
 ·obtain ⟨y17, rfl, rfl, c18, c19, rfl⟩ := q11
  refine Ow.Go.nr (S' := []) (st' := [(.int y17)]) ?_
  refine Ow.ifF (pc' := 23) B e41_20 (flt (c19)).1 ?_
  refine Ow.aloadN (pc' := 24) B e41_23 ?_
  refine Ow.iloadN (pc' := 25) B e41_24 ?_
  refine Ow.iloadN (pc' := 26) B e41_25 ?_
  refine Ow.iconst (pc' := 27) (x := 1) B e41_26 ?_
  refine Ow.isub (pc' := 28) (z := 1) B e41_27 ?_
  refine Ow.Go.old (fun o20 => ?_)
  have f21 := hf0.keep Kh2
  refine Ow.callPrivate (pc' := 31) (W := 0) (k' := 2) (n' := 16) (argsL := [(.int 0), (.int 1)]) (rest := []) (K := "com/example/elsewhere/elsewhere/Field$Subfield") B e41_28 (w62 hw) (w63 hw) (w64 hw) (w31 hw) (w32 hw) (w65 hw) f21 (con_endBeforeSpaces_64 hw G GS (pa0 := pa0) (pa1 := pa1) (pa2 := pa2) (px0 := px0) (px1 := px1) (px2 := px2) (px3 := px3) (pk0 := pk0) o20 f4 f5 (by omega) (by omega) hc_px0 hc_px1 hc_px2 hc_px3) pd14 ?_
  intro vq22 h23 S24 q22 zh23
  rcases q22 with q22 | q22
  ·obtain ⟨rfl, rfl, c25, rfl⟩ := q22
   refine Ow.Go.nr (S' := []) (st' := [(.int 0)]) ?_
   refine Ow.goto (pc' := 35) B e41_31 ?_
   exact Ow.retI (S' := []) (t := .int) B e41_35 (Or.inr (Or.inl (⟨rfl, ((Keep.refl _ []).trans Kh2 (fun _ q => nomatch q)), c18, c25, rfl⟩)))
  ·obtain ⟨rfl, rfl, c26, rfl⟩ := q22
   refine Ow.Go.nr (S' := []) (st' := [(.int 1)]) ?_
   refine Ow.goto (pc' := 35) B e41_31 ?_
   exact Ow.retI (S' := []) (t := .int) B e41_35 (Or.inr (Or.inr (⟨rfl, ((Keep.refl _ []).trans Kh2 (fun _ q => nomatch q)), c18, c26, rfl⟩)))
set_option maxRecDepth 65536 in
set_option maxHeartbeats 40000000 in
theorem con_endBeforeSpaces_66 (hw : Hw a0 Z) (G : Ow.Glo Z cz sf) (GS : GlS Z) {pa0 : Nat} {pa1 : Nat} {pa2 : Nat} {px0 : Int32} {px1 : Int32} {px2 : Int32} {px3 : Int32} {pk0 : ClassId} {h0 : Heap} (O0 : Old Z n0 h0) (hf0 : Fld Z h0 pa0 "com/example/elsewhere/elsewhere/Field$Subfield" "value" "Ljava/lang/String;" (.ref pa1)) (hf1 : Ow.Chs Z h0 pa1 pa2 pk0 [px0, px1, px2, px3]) (hn0 : n0 ≤ pa0) (hn1 : n0 ≤ pa1) (hc_px0 : nar .char px0 = px0) (hc_px1 : nar .char px1 = px1) (hc_px2 : nar .char px2 = px2) (hc_px3 : nar .char px3 = px3) :
    Ow.Con l Z EL1 n0 my39 prog_11_method_5_code 4 (Option.some Jvm.ClassFile.FieldType.int) [] ({ frames := 5, cells := 0, slots := 0, locals := 66 } : Room) #[(.ref pa0), (.int 0), (.int 2)] [] h0 (fun v h S' => (v = some (.int 0) ∧ h = h0 ∧ px1 = (32 : Int32) ∧ px0 = (32 : Int32) ∧ S' = []) ∨ (v = some (.int 1) ∧ h = h0 ∧ px1 = (32 : Int32) ∧ ¬ (px0 = (32 : Int32)) ∧ S' = []) ∨ (v = some (.int 2) ∧ h = h0 ∧ ¬ (px1 = (32 : Int32)) ∧ S' = [])) := by
 refine Ow.Con.enter (Ls := #[.val (.ref pa0), .val (.int 0), .val (.int 2), .unset]) (plainFor_of_name pn6) O0 (hEW hw) (hSA hw) ?_
 intro p e s m below meth c B
 have z0 := Ow.old_le O0
 have lpa0 : (pa0 : Nat) < h0.size := hf0.lt
 have lpa1 : (pa1 : Nat) < h0.size := hf1.lt
 have lpa2 : (pa2 : Nat) < h0.size := hf1.ltt
 refine Ow.iloadN (pc' := 1) B e40_0 ?_
 refine Ow.istoreN (pc' := 2) (Ls' := #[.val (.ref pa0), .val (.int 0), .val (.int 2), .val (.int 2)]) B e40_1 ?_
 refine Ow.iloadN (pc' := 3) B e40_2 ?_
 refine Ow.iloadN (pc' := 4) B e40_3 ?_
 refine Ow.icmpF (pc' := 7) B e40_4 (by decide) ?_
 refine Ow.aloadN (pc' := 8) B e40_7 ?_
 refine Ow.getfield (pc' := 11) B e40_8 (w44 hw) Via.refl hf0 ?_
 refine Ow.iloadN (pc' := 12) B e40_11 ?_
 refine Ow.iconst (pc' := 13) (x := 1) B e40_12 ?_
 refine Ow.isub (pc' := 14) (z := 1) B e40_13 ?_
 refine Ow.Go.old (fun o1 => ?_)
 refine Ow.callVirtual (pc' := 17) (W := 0) (k' := 0) (n' := 0) (argsL := [(.int 1)]) (rest := []) (K := "java/lang/String") B e40_14 (w89 hw) (w90 hw) (w92 hw) (w92 hw) (w91 hw) (w11 hw) (w93 hw) (hf1).1 (gCha hw G GS (j := 1) (x := px1) o1 hf1 rfl (by simp)) pd24 ?_
 intro vq2 h3 S4 q2 zh3
 obtain ⟨rfl, rfl, rfl⟩ := q2
 refine Ow.Go.nr (S' := []) (st' := [(.int px1)]) ?_
 refine Ow.bipush (pc' := 19) (x := 32) B e40_17 ?_
 by_cases c5 : px1 = (32 : Int32)
 ·refine Ow.icmpF (pc' := 22) B e40_19 (teq c5).2 ?_
  refine Ow.iinc (pc' := 25) (y := 1) (Ls' := #[.val (.ref pa0), .val (.int 0), .val (.int 2), .val (.int 1)]) B e40_22 ?_
  refine Ow.goto (pc' := 2) B e40_25 ?_
  refine Ow.iloadN (pc' := 3) B e40_2 ?_
  refine Ow.iloadN (pc' := 4) B e40_3 ?_
  refine Ow.icmpF (pc' := 7) B e40_4 (by decide) ?_
  refine Ow.aloadN (pc' := 8) B e40_7 ?_
  refine Ow.getfield (pc' := 11) B e40_8 (w44 hw) Via.refl hf0 ?_
  refine Ow.iloadN (pc' := 12) B e40_11 ?_
  refine Ow.iconst (pc' := 13) (x := 1) B e40_12 ?_
  refine Ow.isub (pc' := 14) (z := 0) B e40_13 ?_
  refine Ow.Go.old (fun o6 => ?_)
  refine Ow.callVirtual (pc' := 17) (W := 0) (k' := 0) (n' := 0) (argsL := [(.int 0)]) (rest := []) (K := "java/lang/String") B e40_14 (w89 hw) (w90 hw) (w92 hw) (w92 hw) (w91 hw) (w11 hw) (w93 hw) (hf1).1 (gCha hw G GS (j := 0) (x := px0) o6 hf1 rfl (by simp)) pd24 ?_
  intro vq7 h8 S9 q7 zh8
  obtain ⟨rfl, rfl, rfl⟩ := q7
  refine Ow.Go.nr (S' := []) (st' := [(.int px0)]) ?_
  refine Ow.bipush (pc' := 19) (x := 32) B e40_17 ?_
  by_cases c10 : px0 = (32 : Int32)
  ·refine Ow.icmpF (pc' := 22) B e40_19 (teq c10).2 ?_
   refine Ow.iinc (pc' := 25) (y := 0) (Ls' := #[.val (.ref pa0), .val (.int 0), .val (.int 2), .val (.int 0)]) B e40_22 ?_
   refine Ow.goto (pc' := 2) B e40_25 ?_
   refine Ow.iloadN (pc' := 3) B e40_2 ?_
   refine Ow.iloadN (pc' := 4) B e40_3 ?_
   refine Ow.icmpT (pc' := 28) B e40_4 (by decide) ?_
   refine Ow.iloadN (pc' := 29) B e40_28 ?_
   exact Ow.retI (S' := []) (t := .int) B e40_29 (Or.inl (⟨rfl, rfl, c5, c10, rfl⟩))
  ·refine Ow.icmpT (pc' := 28) B e40_19 (feq c10).2 ?_
   refine Ow.iloadN (pc' := 29) B e40_28 ?_
   exact Ow.retI (S' := []) (t := .int) B e40_29 (Or.inr (Or.inl (⟨rfl, rfl, c5, c10, rfl⟩)))
 ·refine Ow.icmpT (pc' := 28) B e40_19 (feq c5).2 ?_
  refine Ow.iloadN (pc' := 29) B e40_28 ?_
  exact Ow.retI (S' := []) (t := .int) B e40_29 (Or.inr (Or.inr (⟨rfl, rfl, c5, rfl⟩)))
set_option maxRecDepth 65536 in
set_option maxHeartbeats 40000000 in
theorem con_endBeforeSeparator_67 (hw : Hw a0 Z) (G : Ow.Glo Z cz sf) (GS : GlS Z) {pa0 : Nat} {pa1 : Nat} {pa2 : Nat} {px0 : Int32} {px1 : Int32} {px2 : Int32} {px3 : Int32} {pk0 : ClassId} {h0 : Heap} (O0 : Old Z n0 h0) (hf0 : Exa Z h0 pa0 "com/example/elsewhere/elsewhere/Field$Subfield") (hf1 : Fld Z h0 pa0 "com/example/elsewhere/elsewhere/Field$Subfield" "value" "Ljava/lang/String;" (.ref pa1)) (hf2 : Ow.Chs Z h0 pa1 pa2 pk0 [px0, px1, px2, px3]) (hn0 : n0 ≤ pa0) (hn1 : n0 ≤ pa1) (hk0 : ¬ (px2 < (0 : Int32))) (hc_px0 : nar .char px0 = px0) (hc_px1 : nar .char px1 = px1) (hc_px2 : nar .char px2 = px2) (hc_px3 : nar .char px3 = px3) :
    Ow.Con l Z EL1 n0 my40 prog_11_method_4_code 3 (Option.some Jvm.ClassFile.FieldType.int) [] ({ frames := 6, cells := 2, slots := 16, locals := 81 } : Room) #[(.ref pa0), (.int 0), (.int 3)] [] h0 (fun v h S' => (v = some (.int 3) ∧ Keep h0 h [] ∧ ¬ (sepP px2) ∧ S' = []) ∨ (v = some (.int 0) ∧ Keep h0 h [] ∧ sepP px2 ∧ px1 = (32 : Int32) ∧ px0 = (32 : Int32) ∧ S' = []) ∨ (v = some (.int 1) ∧ Keep h0 h [] ∧ sepP px2 ∧ px1 = (32 : Int32) ∧ ¬ (px0 = (32 : Int32)) ∧ S' = []) ∨ (v = some (.int 2) ∧ Keep h0 h [] ∧ sepP px2 ∧ ¬ (px1 = (32 : Int32)) ∧ S' = [])) := by
 refine Ow.Con.enter (Ls := #[.val (.ref pa0), .val (.int 0), .val (.int 3)]) (plainFor_of_name pn6) O0 (hEW hw) (hSA hw) ?_
 intro p e s m below meth c B
 have z0 := Ow.old_le O0
 have lpa0 : (pa0 : Nat) < h0.size := hf0.lt
 have lpa1 : (pa1 : Nat) < h0.size := hf2.lt
 have lpa2 : (pa2 : Nat) < h0.size := hf2.ltt
 refine Ow.iloadN (pc' := 1) B e41_0 ?_
 refine Ow.iloadN (pc' := 2) B e41_1 ?_
 refine Ow.icmpF (pc' := 5) B e41_2 (by decide) ?_
 refine Ow.ldcText (pc' := 7) (k' := 2) (n' := 16) (nn := 12) (vs := [(.int 59), (.int 44), (.int 58)]) (z := 3) B e41_5 (w111 hw) (by decide) ⟨by decide, by decide⟩ (by decide) (by decide) ?_
 intro h2 a1 t3 kt3 Kh2 Ea1 Ca1 Va1 At3 Na1
 have zh2 := Kh2.1
 have la1 : (a1 : Nat) < h2.size := Ea1.lt
 have lt3 : (t3 : Nat) < h2.size := At3.lt
 refine Ow.aloadN (pc' := 8) B e41_7 ?_
 have f4 := hf1.keep Kh2 Ow.nin0
 refine Ow.getfield (pc' := 11) B e41_8 (w44 hw) Via.refl f4 ?_
 refine Ow.iloadN (pc' := 12) B e41_11 ?_
 refine Ow.iconst (pc' := 13) (x := 1) B e41_12 ?_
 refine Ow.isub (pc' := 14) (z := 2) B e41_13 ?_
 have f5 := hf2.keep Kh2 Ow.nin0 Ow.nin0
 refine Ow.Go.old (fun o6 => ?_)
 refine Ow.callVirtual (pc' := 17) (W := 1) (k' := 2) (n' := 16) (argsL := [(.int 2)]) (rest := [(.ref a1)]) (K := "java/lang/String") B e41_14 (w89 hw) (w90 hw) (w92 hw) (w92 hw) (w91 hw) (w11 hw) (w93 hw) (f5).1 (gCha hw G GS (j := 2) (x := px2) o6 f5 rfl (by simp)) pd24 ?_
 intro vq7 h8 S9 q7 zh8
 obtain ⟨rfl, rfl, rfl⟩ := q7
 refine Ow.Go.nr (S' := []) (st' := [(.int px2), (.ref a1)]) ?_
 refine Ow.Go.old (fun o10 => ?_)
 refine Ow.callVirtual (pc' := 20) (W := 0) (k' := 2) (n' := 16) (argsL := [(.int px2)]) (rest := []) (K := "java/lang/String") B e41_17 (w112 hw) (w113 hw) (w115 hw) (w115 hw) (w114 hw) (w11 hw) (w116 hw) Ea1 (con_indexOf_32 hw G GS (pa0 := a1) (pa1 := t3) (px0 := px2) (pk0 := kt3) o10 Ea1 Ca1 Va1 At3 (hk0) hc_px2) pd0 ?_
 intro vq11 h12 S13 q11 zh12
 rcases q11 with q11 | q11
 ·obtain ⟨y14, rfl, rfl, c15, c16, rfl⟩ := q11
  refine Ow.Go.nr (S' := []) (st' := [(.int y14)]) ?_
  refine Ow.ifT (pc' := 34) B e41_20 (tlt (c16)).1 ?_
  refine Ow.iloadN (pc' := 35) B e41_34 ?_
  exact Ow.retI (S' := []) (t := .int) B e41_35 (Or.inl (⟨rfl, ((Keep.refl _ []).trans Kh2 (fun _ q => nomatch q)), c15, rfl⟩))
 ·obtain ⟨y17, rfl, rfl, c18, c19, rfl⟩ := q11
  refine Ow.Go.nr (S' := []) (st' := [(.int y17)]) ?_
  refine Ow.ifF (pc' := 23) B e41_20 (flt (c19)).1 ?_
  refine Ow.aloadN (pc' := 24) B e41_23 ?_
  refine Ow.iloadN (pc' := 25) B e41_24 ?_
  refine Ow.iloadN (pc' := 26) B e41_25 ?_
  refine Ow.iconst (pc' := 27) (x := 1) B e41_26 ?_
  refine Ow.isub (pc' := 28) (z := 2) B e41_27 ?_
  refine Ow.Go.old (fun o20 => ?_)
  have f21 := hf0.keep Kh2
  refine Ow.callPrivate (pc' := 31) (W := 0) (k' := 2) (n' := 16) (argsL := [(.int 0), (.int 2)]) (rest := []) (K := "com/example/elsewhere/elsewhere/Field$Subfield") B e41_28 (w62 hw) (w63 hw) (w64 hw) (w31 hw) (w32 hw) (w65 hw) f21 (con_endBeforeSpaces_66 hw G GS (pa0 := pa0) (pa1 := pa1) (pa2 := pa2) (px0 := px0) (px1 := px1) (px2 := px2) (px3 := px3) (pk0 := pk0) o20 f4 f5 (by omega) (by omega) hc_px0 hc_px1 hc_px2 hc_px3) pd14 ?_
  intro vq22 h23 S24 q22 zh23
  rcases q22 with q22 | q22 | q22
  ·obtain ⟨rfl, rfl, c25, c26, rfl⟩ := q22
   refine Ow.Go.nr (S' := []) (st' := [(.int 0)]) ?_
   refine Ow.goto (pc' := 35) B e41_31 ?_
   exact Ow.retI (S' := []) (t := .int) B e41_35 (Or.inr (Or.inl (⟨rfl, ((Keep.refl _ []).trans Kh2 (fun _ q => nomatch q)), c18, c25, c26, rfl⟩)))
  ·obtain ⟨rfl, rfl, c27, c28, rfl⟩ := q22
   refine Ow.Go.nr (S' := []) (st' := [(.int 1)]) ?_
   refine Ow.goto (pc' := 35) B e41_31 ?_
   exact Ow.retI (S' := []) (t := .int) B e41_35 (Or.inr (Or.inr (Or.inl (⟨rfl, ((Keep.refl _ []).trans Kh2 (fun _ q => nomatch q)), c18, c27, c28, rfl⟩))))
  ·obtain ⟨rfl, rfl, c29, rfl⟩ := q22
   refine Ow.Go.nr (S' := []) (st' := [(.int 2)]) ?_
   refine Ow.goto (pc' := 35) B e41_31 ?_
   exact Ow.retI (S' := []) (t := .int) B e41_35 (Or.inr (Or.inr (Or.inr (⟨rfl, ((Keep.refl _ []).trans Kh2 (fun _ q => nomatch q)), c18, c29, rfl⟩))))
set_option maxRecDepth 65536 in
set_option maxHeartbeats 40000000 in
theorem con_endBeforeSpaces_68 (hw : Hw a0 Z) (G : Ow.Glo Z cz sf) (GS : GlS Z) {pa0 : Nat} {pa1 : Nat} {pa2 : Nat} {px0 : Int32} {px1 : Int32} {px2 : Int32} {px3 : Int32} {pk0 : ClassId} {h0 : Heap} (O0 : Old Z n0 h0) (hf0 : Fld Z h0 pa0 "com/example/elsewhere/elsewhere/Field$Subfield" "value" "Ljava/lang/String;" (.ref pa1)) (hf1 : Ow.Chs Z h0 pa1 pa2 pk0 [px0, px1, px2, px3]) (hn0 : n0 ≤ pa0) (hn1 : n0 ≤ pa1) (hc_px0 : nar .char px0 = px0) (hc_px1 : nar .char px1 = px1) (hc_px2 : nar .char px2 = px2) (hc_px3 : nar .char px3 = px3) :
    Ow.Con l Z EL1 n0 my39 prog_11_method_5_code 4 (Option.some Jvm.ClassFile.FieldType.int) [] ({ frames := 5, cells := 0, slots := 0, locals := 66 } : Room) #[(.ref pa0), (.int 0), (.int 3)] [] h0 (fun v h S' => (v = some (.int 0) ∧ h = h0 ∧ px2 = (32 : Int32) ∧ px1 = (32 : Int32) ∧ px0 = (32 : Int32) ∧ S' = []) ∨ (v = some (.int 1) ∧ h = h0 ∧ px2 = (32 : Int32) ∧ px1 = (32 : Int32) ∧ ¬ (px0 = (32 : Int32)) ∧ S' = []) ∨ (v = some (.int 2) ∧ h = h0 ∧ px2 = (32 : Int32) ∧ ¬ (px1 = (32 : Int32)) ∧ S' = []) ∨ (v = some (.int 3) ∧ h = h0 ∧ ¬ (px2 = (32 : Int32)) ∧ S' = [])) := by
 refine Ow.Con.enter (Ls := #[.val (.ref pa0), .val (.int 0), .val (.int 3), .unset]) (plainFor_of_name pn6) O0 (hEW hw) (hSA hw) ?_
 intro p e s m below meth c B
 have z0 := Ow.old_le O0
 have lpa0 : (pa0 : Nat) < h0.size := hf0.lt
 have lpa1 : (pa1 : Nat) < h0.size := hf1.lt
 have lpa2 : (pa2 : Nat) < h0.size := hf1.ltt
 refine Ow.iloadN (pc' := 1) B e40_0 ?_
 refine Ow.istoreN (pc' := 2) (Ls' := #[.val (.ref pa0), .val (.int 0), .val (.int 3), .val (.int 3)]) B e40_1 ?_
 refine Ow.iloadN (pc' := 3) B e40_2 ?_
 refine Ow.iloadN (pc' := 4) B e40_3 ?_
 refine Ow.icmpF (pc' := 7) B e40_4 (by decide) ?_
 refine Ow.aloadN (pc' := 8) B e40_7 ?_
 refine Ow.getfield (pc' := 11) B e40_8 (w44 hw) Via.refl hf0 ?_
 refine Ow.iloadN (pc' := 12) B e40_11 ?_
 refine Ow.iconst (pc' := 13) (x := 1) B e40_12 ?_
 refine Ow.isub (pc' := 14) (z := 2) B e40_13 ?_
 refine Ow.Go.old (fun o1 => ?_)
 refine Ow.callVirtual (pc' := 17) (W := 0) (k' := 0) (n' := 0) (argsL := [(.int 2)]) (rest := []) (K := "java/lang/String") B e40_14 (w89 hw) (w90 hw) (w92 hw) (w92 hw) (w91 hw) (w11 hw) (w93 hw) (hf1).1 (gCha hw G GS (j := 2) (x := px2) o1 hf1 rfl (by simp)) pd24 ?_
 intro vq2 h3 S4 q2 zh3
 obtain ⟨rfl, rfl, rfl⟩ := q2
 refine Ow.Go.nr (S' := []) (st' := [(.int px2)]) ?_
 refine Ow.bipush (pc' := 19) (x := 32) B e40_17 ?_
 by_cases c5 : px2 = (32 : Int32)
 ·refine Ow.icmpF (pc' := 22) B e40_19 (teq c5).2 ?_
  refine Ow.iinc (pc' := 25) (y := 2) (Ls' := #[.val (.ref pa0), .val (.int 0), .val (.int 3), .val (.int 2)]) B e40_22 ?_
  refine Ow.goto (pc' := 2) B e40_25 ?_
  refine Ow.iloadN (pc' := 3) B e40_2 ?_
  refine Ow.iloadN (pc' := 4) B e40_3 ?_
  refine Ow.icmpF (pc' := 7) B e40_4 (by decide) ?_
  refine Ow.aloadN (pc' := 8) B e40_7 ?_
  refine Ow.getfield (pc' := 11) B e40_8 (w44 hw) Via.refl hf0 ?_
  refine Ow.iloadN (pc' := 12) B e40_11 ?_
  refine Ow.iconst (pc' := 13) (x := 1) B e40_12 ?_
  refine Ow.isub (pc' := 14) (z := 1) B e40_13 ?_
  refine Ow.Go.old (fun o6 => ?_)
  refine Ow.callVirtual (pc' := 17) (W := 0) (k' := 0) (n' := 0) (argsL := [(.int 1)]) (rest := []) (K := "java/lang/String") B e40_14 (w89 hw) (w90 hw) (w92 hw) (w92 hw) (w91 hw) (w11 hw) (w93 hw) (hf1).1 (gCha hw G GS (j := 1) (x := px1) o6 hf1 rfl (by simp)) pd24 ?_
  intro vq7 h8 S9 q7 zh8
  obtain ⟨rfl, rfl, rfl⟩ := q7
  refine Ow.Go.nr (S' := []) (st' := [(.int px1)]) ?_
  refine Ow.bipush (pc' := 19) (x := 32) B e40_17 ?_
  by_cases c10 : px1 = (32 : Int32)
  ·refine Ow.icmpF (pc' := 22) B e40_19 (teq c10).2 ?_
   refine Ow.iinc (pc' := 25) (y := 1) (Ls' := #[.val (.ref pa0), .val (.int 0), .val (.int 3), .val (.int 1)]) B e40_22 ?_
   refine Ow.goto (pc' := 2) B e40_25 ?_
   refine Ow.iloadN (pc' := 3) B e40_2 ?_
   refine Ow.iloadN (pc' := 4) B e40_3 ?_
   refine Ow.icmpF (pc' := 7) B e40_4 (by decide) ?_
   refine Ow.aloadN (pc' := 8) B e40_7 ?_
   refine Ow.getfield (pc' := 11) B e40_8 (w44 hw) Via.refl hf0 ?_
   refine Ow.iloadN (pc' := 12) B e40_11 ?_
   refine Ow.iconst (pc' := 13) (x := 1) B e40_12 ?_
   refine Ow.isub (pc' := 14) (z := 0) B e40_13 ?_
   refine Ow.Go.old (fun o11 => ?_)
   refine Ow.callVirtual (pc' := 17) (W := 0) (k' := 0) (n' := 0) (argsL := [(.int 0)]) (rest := []) (K := "java/lang/String") B e40_14 (w89 hw) (w90 hw) (w92 hw) (w92 hw) (w91 hw) (w11 hw) (w93 hw) (hf1).1 (gCha hw G GS (j := 0) (x := px0) o11 hf1 rfl (by simp)) pd24 ?_
   intro vq12 h13 S14 q12 zh13
   obtain ⟨rfl, rfl, rfl⟩ := q12
   refine Ow.Go.nr (S' := []) (st' := [(.int px0)]) ?_
   refine Ow.bipush (pc' := 19) (x := 32) B e40_17 ?_
   by_cases c15 : px0 = (32 : Int32)
   ·refine Ow.icmpF (pc' := 22) B e40_19 (teq c15).2 ?_
    refine Ow.iinc (pc' := 25) (y := 0) (Ls' := #[.val (.ref pa0), .val (.int 0), .val (.int 3), .val (.int 0)]) B e40_22 ?_
    refine Ow.goto (pc' := 2) B e40_25 ?_
    refine Ow.iloadN (pc' := 3) B e40_2 ?_
    refine Ow.iloadN (pc' := 4) B e40_3 ?_
    refine Ow.icmpT (pc' := 28) B e40_4 (by decide) ?_
    refine Ow.iloadN (pc' := 29) B e40_28 ?_
    exact Ow.retI (S' := []) (t := .int) B e40_29 (Or.inl (⟨rfl, rfl, c5, c10, c15, rfl⟩))
   ·refine Ow.icmpT (pc' := 28) B e40_19 (feq c15).2 ?_
    refine Ow.iloadN (pc' := 29) B e40_28 ?_
    exact Ow.retI (S' := []) (t := .int) B e40_29 (Or.inr (Or.inl (⟨rfl, rfl, c5, c10, c15, rfl⟩)))
  ·refine Ow.icmpT (pc' := 28) B e40_19 (feq c10).2 ?_
   refine Ow.iloadN (pc' := 29) B e40_28 ?_
   exact Ow.retI (S' := []) (t := .int) B e40_29 (Or.inr (Or.inr (Or.inl (⟨rfl, rfl, c5, c10, rfl⟩))))
 ·refine Ow.icmpT (pc' := 28) B e40_19 (feq c5).2 ?_
  refine Ow.iloadN (pc' := 29) B e40_28 ?_
  exact Ow.retI (S' := []) (t := .int) B e40_29 (Or.inr (Or.inr (Or.inr (⟨rfl, rfl, c5, rfl⟩))))
set_option maxRecDepth 65536 in
set_option maxHeartbeats 40000000 in
theorem con_endBeforeSeparator_69 (hw : Hw a0 Z) (G : Ow.Glo Z cz sf) (GS : GlS Z) {pa0 : Nat} {pa1 : Nat} {pa2 : Nat} {px0 : Int32} {px1 : Int32} {px2 : Int32} {px3 : Int32} {pk0 : ClassId} {h0 : Heap} (O0 : Old Z n0 h0) (hf0 : Exa Z h0 pa0 "com/example/elsewhere/elsewhere/Field$Subfield") (hf1 : Fld Z h0 pa0 "com/example/elsewhere/elsewhere/Field$Subfield" "value" "Ljava/lang/String;" (.ref pa1)) (hf2 : Ow.Chs Z h0 pa1 pa2 pk0 [px0, px1, px2, px3]) (hn0 : n0 ≤ pa0) (hn1 : n0 ≤ pa1) (hk0 : ¬ (px3 < (0 : Int32))) (hc_px0 : nar .char px0 = px0) (hc_px1 : nar .char px1 = px1) (hc_px2 : nar .char px2 = px2) (hc_px3 : nar .char px3 = px3) :
    Ow.Con l Z EL1 n0 my40 prog_11_method_4_code 3 (Option.some Jvm.ClassFile.FieldType.int) [] ({ frames := 6, cells := 2, slots := 16, locals := 81 } : Room) #[(.ref pa0), (.int 0), (.int 4)] [] h0 (fun v h S' => (v = some (.int 4) ∧ Keep h0 h [] ∧ ¬ (sepP px3) ∧ S' = []) ∨ (v = some (.int 0) ∧ Keep h0 h [] ∧ sepP px3 ∧ px2 = (32 : Int32) ∧ px1 = (32 : Int32) ∧ px0 = (32 : Int32) ∧ S' = []) ∨ (v = some (.int 1) ∧ Keep h0 h [] ∧ sepP px3 ∧ px2 = (32 : Int32) ∧ px1 = (32 : Int32) ∧ ¬ (px0 = (32 : Int32)) ∧ S' = []) ∨ (v = some (.int 2) ∧ Keep h0 h [] ∧ sepP px3 ∧ px2 = (32 : Int32) ∧ ¬ (px1 = (32 : Int32)) ∧ S' = []) ∨ (v = some (.int 3) ∧ Keep h0 h [] ∧ sepP px3 ∧ ¬ (px2 = (32 : Int32)) ∧ S' = [])) := by
 refine Ow.Con.enter (Ls := #[.val (.ref pa0), .val (.int 0), .val (.int 4)]) (plainFor_of_name pn6) O0 (hEW hw) (hSA hw) ?_
 intro p e s m below meth c B
 have z0 := Ow.old_le O0
 have lpa0 : (pa0 : Nat) < h0.size := hf0.lt
 have lpa1 : (pa1 : Nat) < h0.size := hf2.lt
 have lpa2 : (pa2 : Nat) < h0.size := hf2.ltt
 refine Ow.iloadN (pc' := 1) B e41_0 ?_
 refine Ow.iloadN (pc' := 2) B e41_1 ?_
 refine Ow.icmpF (pc' := 5) B e41_2 (by decide) ?_
 refine Ow.ldcText (pc' := 7) (k' := 2) (n' := 16) (nn := 12) (vs := [(.int 59), (.int 44), (.int 58)]) (z := 3) B e41_5 (w111 hw) (by decide) ⟨by decide, by decide⟩ (by decide) (by decide) ?_
 intro h2 a1 t3 kt3 Kh2 Ea1 Ca1 Va1 At3 Na1
 have zh2 := Kh2.1
 have la1 : (a1 : Nat) < h2.size := Ea1.lt
 have lt3 : (t3 : Nat) < h2.size := At3.lt
 refine Ow.aloadN (pc' := 8) B e41_7 ?_
 have f4 := hf1.keep Kh2 Ow.nin0
 refine Ow.getfield (pc' := 11) B e41_8 (w44 hw) Via.refl f4 ?_
 refine Ow.iloadN (pc' := 12) B e41_11 ?_
 refine Ow.iconst (pc' := 13) (x := 1) B e41_12 ?_
 refine Ow.isub (pc' := 14) (z := 3) B e41_13 ?_
 have f5 := hf2.keep Kh2 Ow.nin0 Ow.nin0
 refine Ow.Go.old (fun o6 => ?_)
 refine Ow.callVirtual (pc' := 17) (W := 1) (k' := 2) (n' := 16) (argsL := [(.int 3)]) (rest := [(.ref a1)]) (K := "java/lang/String") B e41_14 (w89 hw) (w90 hw) (w92 hw) (w92 hw) (w91 hw) (w11 hw) (w93 hw) (f5).1 (gCha hw G GS (j := 3) (x := px3) o6 f5 rfl (by simp)) pd24 ?_
 intro vq7 h8 S9 q7 zh8
 obtain ⟨rfl, rfl, rfl⟩ := q7
 refine Ow.Go.nr (S' := []) (st' := [(.int px3), (.ref a1)]) ?_
 refine Ow.Go.old (fun o10 => ?_)
 refine Ow.callVirtual (pc' := 20) (W := 0) (k' := 2) (n' := 16) (argsL := [(.int px3)]) (rest := []) (K := "java/lang/String") B e41_17 (w112 hw) (w113 hw) (w115 hw) (w115 hw) (w114 hw) (w11 hw) (w116 hw) Ea1 (con_indexOf_32 hw G GS (pa0 := a1) (pa1 := t3) (px0 := px3) (pk0 := kt3) o10 Ea1 Ca1 Va1 At3 (hk0) hc_px3) pd0 ?_
 intro vq11 h12 S13 q11 zh12
 rcases q11 with q11 | q11
 ·obtain ⟨y14, rfl, rfl, c15, c16, rfl⟩ := q11
  refine Ow.Go.nr (S' := []) (st' := [(.int y14)]) ?_
  refine Ow.ifT (pc' := 34) B e41_20 (tlt (c16)).1 ?_
  refine Ow.iloadN (pc' := 35) B e41_34 ?_
  exact Ow.retI (S' := []) (t := .int) B e41_35 (Or.inl (⟨rfl, ((Keep.refl _ []).trans Kh2 (fun _ q => nomatch q)), c15, rfl⟩))
 ·obtain ⟨y17, rfl, rfl, c18, c19, rfl⟩ := q11
  refine Ow.Go.nr (S' := []) (st' := [(.int y17)]) ?_
  refine Ow.ifF (pc' := 23) B e41_20 (flt (c19)).1 ?_
  refine Ow.aloadN (pc' := 24) B e41_23 ?_
  refine Ow.iloadN (pc' := 25) B e41_24 ?_
  refine Ow.iloadN (pc' := 26) B e41_25 ?_
  refine Ow.iconst (pc' := 27) (x := 1) B e41_26 ?_
  refine Ow.isub (pc' := 28) (z := 3) B e41_27 ?_
  refine Ow.Go.old (fun o20 => ?_)
  have f21 := hf0.keep Kh2
  refine Ow.callPrivate (pc' := 31) (W := 0) (k' := 2) (n' := 16) (argsL := [(.int 0), (.int 3)]) (rest := []) (K := "com/example/elsewhere/elsewhere/Field$Subfield") B e41_28 (w62 hw) (w63 hw) (w64 hw) (w31 hw) (w32 hw) (w65 hw) f21 (con_endBeforeSpaces_68 hw G GS (pa0 := pa0) (pa1 := pa1) (pa2 := pa2) (px0 := px0) (px1 := px1) (px2 := px2) (px3 := px3) (pk0 := pk0) o20 f4 f5 (by omega) (by omega) hc_px0 hc_px1 hc_px2 hc_px3) pd14 ?_
  intro vq22 h23 S24 q22 zh23
  rcases q22 with q22 | q22 | q22 | q22
  ·obtain ⟨rfl, rfl, c25, c26, c27, rfl⟩ := q22
   refine Ow.Go.nr (S' := []) (st' := [(.int 0)]) ?_
   refine Ow.goto (pc' := 35) B e41_31 ?_
   exact Ow.retI (S' := []) (t := .int) B e41_35 (Or.inr (Or.inl (⟨rfl, ((Keep.refl _ []).trans Kh2 (fun _ q => nomatch q)), c18, c25, c26, c27, rfl⟩)))
  ·obtain ⟨rfl, rfl, c28, c29, c30, rfl⟩ := q22
   refine Ow.Go.nr (S' := []) (st' := [(.int 1)]) ?_
   refine Ow.goto (pc' := 35) B e41_31 ?_
   exact Ow.retI (S' := []) (t := .int) B e41_35 (Or.inr (Or.inr (Or.inl (⟨rfl, ((Keep.refl _ []).trans Kh2 (fun _ q => nomatch q)), c18, c28, c29, c30, rfl⟩))))
  ·obtain ⟨rfl, rfl, c31, c32, rfl⟩ := q22
   refine Ow.Go.nr (S' := []) (st' := [(.int 2)]) ?_
   refine Ow.goto (pc' := 35) B e41_31 ?_
   exact Ow.retI (S' := []) (t := .int) B e41_35 (Or.inr (Or.inr (Or.inr (Or.inl (⟨rfl, ((Keep.refl _ []).trans Kh2 (fun _ q => nomatch q)), c18, c31, c32, rfl⟩)))))
  ·obtain ⟨rfl, rfl, c33, rfl⟩ := q22
   refine Ow.Go.nr (S' := []) (st' := [(.int 3)]) ?_
   refine Ow.goto (pc' := 35) B e41_31 ?_
   exact Ow.retI (S' := []) (t := .int) B e41_35 (Or.inr (Or.inr (Or.inr (Or.inr (⟨rfl, ((Keep.refl _ []).trans Kh2 (fun _ q => nomatch q)), c18, c33, rfl⟩)))))
set_option maxRecDepth 65536 in
set_option maxHeartbeats 40000000 in
theorem con_withoutSeparator_70 (hw : Hw a0 Z) (G : Ow.Glo Z cz sf) (GS : GlS Z) {pa0 : Nat} {pa1 : Nat} {pa2 : Nat} {px0 : Int32} {px1 : Int32} {px2 : Int32} {px3 : Int32} {pk0 : ClassId} {h0 : Heap} (O0 : Old Z n0 h0) (hf0 : Exa Z h0 pa0 "com/example/elsewhere/elsewhere/Field$Subfield") (hf1 : Fld Z h0 pa0 "com/example/elsewhere/elsewhere/Field$Subfield" "value" "Ljava/lang/String;" (.ref pa1)) (hf2 : Ow.Chs Z h0 pa1 pa2 pk0 [px0, px1, px2, px3]) (hn0 : n0 ≤ pa0) (hn1 : n0 ≤ pa1) (hk0 : ¬ (px0 < (0 : Int32))) (hk1 : ¬ (px1 < (0 : Int32))) (hk2 : ¬ (px2 < (0 : Int32))) (hk3 : ¬ (px3 < (0 : Int32))) (hc_px0 : nar .char px0 = px0) (hc_px1 : nar .char px1 = px1) (hc_px2 : nar .char px2 = px2) (hc_px3 : nar .char px3 = px3) :
    Ow.Con l Z EL1 n0 my41 prog_11_method_3_code 3 (Option.some (Jvm.ClassFile.FieldType.object "java/lang/String")) [] ({ frames := 7, cells := 5, slots := 32, locals := 110 } : Room) #[(.ref pa0)] [] h0 (fun v h S' => (v = some (.ref pa1) ∧ h = h0 ∧ px3 = (32 : Int32) ∧ px2 = (32 : Int32) ∧ px1 = (32 : Int32) ∧ px0 = (32 : Int32) ∧ S' = []) ∨ (v = some (.ref pa1) ∧ Keep h0 h [] ∧ px3 = (32 : Int32) ∧ px2 = (32 : Int32) ∧ px1 = (32 : Int32) ∧ ¬ (px0 = (32 : Int32)) ∧ ¬ (sepP px0) ∧ S' = []) ∨ (∃ r0 : Nat, ∃ r1 : Nat, ∃ k0 : ClassId, v = some (.ref r0) ∧ Keep h0 h [] ∧ px3 = (32 : Int32) ∧ px2 = (32 : Int32) ∧ px1 = (32 : Int32) ∧ ¬ (px0 = (32 : Int32)) ∧ sepP px0 ∧ Ow.Chs Z h r0 r1 k0 [] ∧ S' = []) ∨ (v = some (.ref pa1) ∧ Keep h0 h [] ∧ px3 = (32 : Int32) ∧ px2 = (32 : Int32) ∧ ¬ (px1 = (32 : Int32)) ∧ ¬ (sepP px1) ∧ S' = []) ∨ (∃ r0 : Nat, ∃ r1 : Nat, ∃ k0 : ClassId, v = some (.ref r0) ∧ Keep h0 h [] ∧ px3 = (32 : Int32) ∧ px2 = (32 : Int32) ∧ ¬ (px1 = (32 : Int32)) ∧ sepP px1 ∧ px0 = (32 : Int32) ∧ Ow.Chs Z h r0 r1 k0 [] ∧ S' = []) ∨ (∃ r0 : Nat, ∃ r1 : Nat, ∃ k0 : ClassId, v = some (.ref r0) ∧ Keep h0 h [] ∧ px3 = (32 : Int32) ∧ px2 = (32 : Int32) ∧ ¬ (px1 = (32 : Int32)) ∧ sepP px1 ∧ ¬ (px0 = (32 : Int32)) ∧ Ow.Chs Z h r0 r1 k0 [px0] ∧ S' = []) ∨ (v = some (.ref pa1) ∧ Keep h0 h [] ∧ px3 = (32 : Int32) ∧ ¬ (px2 = (32 : Int32)) ∧ ¬ (sepP px2) ∧ S' = []) ∨ (∃ r0 : Nat, ∃ r1 : Nat, ∃ k0 : ClassId, v = some (.ref r0) ∧ Keep h0 h [] ∧ px3 = (32 : Int32) ∧ ¬ (px2 = (32 : Int32)) ∧ sepP px2 ∧ px1 = (32 : Int32) ∧ px0 = (32 : Int32) ∧ Ow.Chs Z h r0 r1 k0 [] ∧ S' = []) ∨ (∃ r0 : Nat, ∃ r1 : Nat, ∃ k0 : ClassId, v = some (.ref r0) ∧ Keep h0 h [] ∧ px3 = (32 : Int32) ∧ ¬ (px2 = (32 : Int32)) ∧ sepP px2 ∧ px1 = (32 : Int32) ∧ ¬ (px0 = (32 : Int32)) ∧ Ow.Chs Z h r0 r1 k0 [px0] ∧ S' = []) ∨ (∃ r0 : Nat, ∃ r1 : Nat, ∃ k0 : ClassId, v = some (.ref r0) ∧ Keep h0 h [] ∧ px3 = (32 : Int32) ∧ ¬ (px2 = (32 : Int32)) ∧ sepP px2 ∧ ¬ (px1 = (32 : Int32)) ∧ Ow.Chs Z h r0 r1 k0 [px0, px1] ∧ S' = []) ∨ (v = some (.ref pa1) ∧ Keep h0 h [] ∧ ¬ (px3 = (32 : Int32)) ∧ ¬ (sepP px3) ∧ S' = []) ∨ (∃ r0 : Nat, ∃ r1 : Nat, ∃ k0 : ClassId, v = some (.ref r0) ∧ Keep h0 h [] ∧ ¬ (px3 = (32 : Int32)) ∧ sepP px3 ∧ px2 = (32 : Int32) ∧ px1 = (32 : Int32) ∧ px0 = (32 : Int32) ∧ Ow.Chs Z h r0 r1 k0 [] ∧ S' = []) ∨ (∃ r0 : Nat, ∃ r1 : Nat, ∃ k0 : ClassId, v = some (.ref r0) ∧ Keep h0 h [] ∧ ¬ (px3 = (32 : Int32)) ∧ sepP px3 ∧ px2 = (32 : Int32) ∧ px1 = (32 : Int32) ∧ ¬ (px0 = (32 : Int32)) ∧ Ow.Chs Z h r0 r1 k0 [px0] ∧ S' = []) ∨ (∃ r0 : Nat, ∃ r1 : Nat, ∃ k0 : ClassId, v = some (.ref r0) ∧ Keep h0 h [] ∧ ¬ (px3 = (32 : Int32)) ∧ sepP px3 ∧ px2 = (32 : Int32) ∧ ¬ (px1 = (32 : Int32)) ∧ Ow.Chs Z h r0 r1 k0 [px0, px1] ∧ S' = []) ∨ (∃ r0 : Nat, ∃ r1 : Nat, ∃ k0 : ClassId, v = some (.ref r0) ∧ Keep h0 h [] ∧ ¬ (px3 = (32 : Int32)) ∧ sepP px3 ∧ ¬ (px2 = (32 : Int32)) ∧ Ow.Chs Z h r0 r1 k0 [px0, px1, px2] ∧ S' = [])) := by
 refine Ow.Con.enter (Ls := #[.val (.ref pa0), .unset, .unset]) (plainFor_of_name pn6) O0 (hEW hw) (hSA hw) ?_
 intro p e s m below meth c B
 have z0 := Ow.old_le O0
 have lpa0 : (pa0 : Nat) < h0.size := hf0.lt
 have lpa1 : (pa1 : Nat) < h0.size := hf2.lt
 have lpa2 : (pa2 : Nat) < h0.size := hf2.ltt
 refine Ow.aloadN (pc' := 1) B e39_0 ?_
 refine Ow.iconst (pc' := 2) (x := 0) B e39_1 ?_
 refine Ow.aloadN (pc' := 3) B e39_2 ?_
 refine Ow.getfield (pc' := 6) B e39_3 (w44 hw) Via.refl hf1 ?_
 refine Ow.Go.old (fun o1 => ?_)
 refine Ow.callVirtual (pc' := 9) (W := 2) (k' := 0) (n' := 0) (argsL := []) (rest := [(.int 0), (.ref pa0)]) (K := "java/lang/String") B e39_6 (w51 hw) (w52 hw) (w54 hw) (w54 hw) (w53 hw) (w11 hw) (w55 hw) (hf2).1 (gLen hw G GS o1 hf2 (by simp)) pd21 ?_
 intro vq2 h3 S4 q2 zh3
 obtain ⟨rfl, rfl, rfl⟩ := q2
 refine Ow.Go.nr (S' := []) (st' := [(.int 4), (.int 0), (.ref pa0)]) ?_
 refine Ow.Go.old (fun o5 => ?_)
 refine Ow.callPrivate (pc' := 12) (W := 0) (k' := 0) (n' := 0) (argsL := [(.int 0), (.int 4)]) (rest := []) (K := "com/example/elsewhere/elsewhere/Field$Subfield") B e39_9 (w62 hw) (w63 hw) (w64 hw) (w31 hw) (w32 hw) (w65 hw) hf0 (con_endBeforeSpaces_62 hw G GS (pa0 := pa0) (pa1 := pa1) (pa2 := pa2) (px0 := px0) (px1 := px1) (px2 := px2) (px3 := px3) (pk0 := pk0) o5 hf1 hf2 (by omega) (by omega) hc_px0 hc_px1 hc_px2 hc_px3) pd14 ?_
 intro vq6 h7 S8 q6 zh7
 rcases q6 with q6 | q6 | q6 | q6 | q6
 ·obtain ⟨rfl, rfl, c9, c10, c11, c12, rfl⟩ := q6
  refine Ow.Go.nr (S' := []) (st' := [(.int 0)]) ?_
  refine Ow.istoreN (pc' := 13) (Ls' := #[.val (.ref pa0), .val (.int 0), .unset]) B e39_12 ?_
  refine Ow.aloadN (pc' := 14) B e39_13 ?_
  refine Ow.iconst (pc' := 15) (x := 0) B e39_14 ?_
  refine Ow.iloadN (pc' := 16) B e39_15 ?_
  refine Ow.Go.old (fun o13 => ?_)
  refine Ow.callPrivate (pc' := 19) (W := 0) (k' := 0) (n' := 0) (argsL := [(.int 0), (.int 0)]) (rest := []) (K := "com/example/elsewhere/elsewhere/Field$Subfield") B e39_16 (w66 hw) (w67 hw) (w68 hw) (w31 hw) (w32 hw) (w69 hw) hf0 (con_endBeforeSeparator_19 hw G GS (pa0 := pa0) o13) pd14 ?_
  intro vq14 h15 S16 q14 zh15
  obtain ⟨rfl, rfl, rfl⟩ := q14
  refine Ow.Go.nr (S' := []) (st' := [(.int 0)]) ?_
  refine Ow.istoreN (pc' := 20) (Ls' := #[.val (.ref pa0), .val (.int 0), .val (.int 0)]) B e39_19 ?_
  refine Ow.iloadN (pc' := 21) B e39_20 ?_
  refine Ow.iloadN (pc' := 22) B e39_21 ?_
  refine Ow.icmpF (pc' := 25) B e39_22 (by decide) ?_
  refine Ow.aloadN (pc' := 26) B e39_25 ?_
  refine Ow.getfield (pc' := 29) B e39_26 (w44 hw) Via.refl hf1 ?_
  refine Ow.goto (pc' := 41) B e39_29 ?_
  exact Ow.retA (S' := []) (t := (.object "java/lang/String")) B e39_41 (Or.inl (⟨rfl, rfl, c9, c10, c11, c12, rfl⟩))
 ·obtain ⟨rfl, rfl, c17, c18, c19, c20, rfl⟩ := q6
  refine Ow.Go.nr (S' := []) (st' := [(.int 1)]) ?_
  refine Ow.istoreN (pc' := 13) (Ls' := #[.val (.ref pa0), .val (.int 1), .unset]) B e39_12 ?_
  refine Ow.aloadN (pc' := 14) B e39_13 ?_
  refine Ow.iconst (pc' := 15) (x := 0) B e39_14 ?_
  refine Ow.iloadN (pc' := 16) B e39_15 ?_
  refine Ow.Go.old (fun o21 => ?_)
  refine Ow.callPrivate (pc' := 19) (W := 0) (k' := 2) (n' := 16) (argsL := [(.int 0), (.int 1)]) (rest := []) (K := "com/example/elsewhere/elsewhere/Field$Subfield") B e39_16 (w66 hw) (w67 hw) (w68 hw) (w31 hw) (w32 hw) (w69 hw) hf0 (con_endBeforeSeparator_63 hw G GS (pa0 := pa0) (pa1 := pa1) (pa2 := pa2) (px0 := px0) (px1 := px1) (px2 := px2) (px3 := px3) (pk0 := pk0) o21 hf0 hf1 hf2 (by omega) (by omega) (hk0) hc_px0 hc_px1 hc_px2 hc_px3) pd14 ?_
  intro vq22 h23 S24 q22 zh23
  rcases q22 with q22 | q22
  ·obtain ⟨rfl, Kh23, c25, rfl⟩ := q22
   refine Ow.Go.nr (S' := []) (st' := [(.int 1)]) ?_
   refine Ow.istoreN (pc' := 20) (Ls' := #[.val (.ref pa0), .val (.int 1), .val (.int 1)]) B e39_19 ?_
   refine Ow.iloadN (pc' := 21) B e39_20 ?_
   refine Ow.iloadN (pc' := 22) B e39_21 ?_
   refine Ow.icmpF (pc' := 25) B e39_22 (by decide) ?_
   refine Ow.aloadN (pc' := 26) B e39_25 ?_
   have f26 := hf1.keep Kh23 Ow.nin0
   refine Ow.getfield (pc' := 29) B e39_26 (w44 hw) Via.refl f26 ?_
   refine Ow.goto (pc' := 41) B e39_29 ?_
   exact Ow.retA (S' := []) (t := (.object "java/lang/String")) B e39_41 (Or.inr (Or.inl (⟨rfl, ((Keep.refl _ []).trans Kh23 (fun _ q => nomatch q)), c17, c18, c19, c20, c25, rfl⟩)))
  ·obtain ⟨rfl, Kh23, c27, rfl⟩ := q22
   refine Ow.Go.nr (S' := []) (st' := [(.int 0)]) ?_
   refine Ow.istoreN (pc' := 20) (Ls' := #[.val (.ref pa0), .val (.int 1), .val (.int 0)]) B e39_19 ?_
   refine Ow.iloadN (pc' := 21) B e39_20 ?_
   refine Ow.iloadN (pc' := 22) B e39_21 ?_
   refine Ow.icmpT (pc' := 32) B e39_22 (by decide) ?_
   refine Ow.aloadN (pc' := 33) B e39_32 ?_
   have f28 := hf1.keep Kh23 Ow.nin0
   refine Ow.getfield (pc' := 36) B e39_33 (w44 hw) Via.refl f28 ?_
   refine Ow.iconst (pc' := 37) (x := 0) B e39_36 ?_
   refine Ow.iloadN (pc' := 38) B e39_37 ?_
   refine Ow.Go.old (fun o29 => ?_)
   have f30 := hf2.keep Kh23 Ow.nin0 Ow.nin0
   refine Ow.callVirtual (pc' := 41) (W := 0) (k' := 5) (n' := 32) (argsL := [(.int 0), (.int 0)]) (rest := []) (K := "java/lang/String") B e39_38 (w139 hw) (w140 hw) (w142 hw) (w142 hw) (w141 hw) (w11 hw) (w143 hw) (f30).1 (gSub hw G GS (cs := [px0, px1, px2, px3]) (i := 0) (e' := 0) o29 f30 (by decide) (by simp) (Or.inr (Ow.allI (own_seplo (c27)) (Ow.allI (own_seplo0 (c19)) (Ow.allI (own_seplo0 (c18)) (Ow.allI (own_seplo0 (c17)) Ow.allI0))))) (by simp) (by simp)) pd34 ?_
   intro vq31 h32 S33 q31 zh32
   obtain ⟨r34, t35, k36, rfl, Kh32, f37, rfl⟩ := q31
   have f37 : Ow.Chs Z h32 r34 t35 k36 [] := f37
   have lr34 : (r34 : Nat) < h32.size := f37.lt
   have lt35 : (t35 : Nat) < h32.size := f37.ltt
   refine Ow.Go.nr (S' := []) (st' := [(.ref r34)]) ?_
   exact Ow.retA (S' := []) (t := (.object "java/lang/String")) B e39_41 (Or.inr (Or.inr (Or.inl (⟨r34, t35, k36, rfl, (((Keep.refl _ []).trans Kh23 (fun _ q => nomatch q)).trans Kh32 (fun _ q => nomatch q)), c17, c18, c19, c20, c27, f37, rfl⟩))))
 ·obtain ⟨rfl, rfl, c38, c39, c40, rfl⟩ := q6
  refine Ow.Go.nr (S' := []) (st' := [(.int 2)]) ?_
  refine Ow.istoreN (pc' := 13) (Ls' := #[.val (.ref pa0), .val (.int 2), .unset]) B e39_12 ?_
  refine Ow.aloadN (pc' := 14) B e39_13 ?_
  refine Ow.iconst (pc' := 15) (x := 0) B e39_14 ?_
  refine Ow.iloadN (pc' := 16) B e39_15 ?_
  refine Ow.Go.old (fun o41 => ?_)
  refine Ow.callPrivate (pc' := 19) (W := 0) (k' := 2) (n' := 16) (argsL := [(.int 0), (.int 2)]) (rest := []) (K := "com/example/elsewhere/elsewhere/Field$Subfield") B e39_16 (w66 hw) (w67 hw) (w68 hw) (w31 hw) (w32 hw) (w69 hw) hf0 (con_endBeforeSeparator_65 hw G GS (pa0 := pa0) (pa1 := pa1) (pa2 := pa2) (px0 := px0) (px1 := px1) (px2 := px2) (px3 := px3) (pk0 := pk0) o41 hf0 hf1 hf2 (by omega) (by omega) (hk1) hc_px0 hc_px1 hc_px2 hc_px3) pd14 ?_
  intro vq42 h43 S44 q42 zh43
  rcases q42 with q42 | q42 | q42
  ·obtain ⟨rfl, Kh43, c45, rfl⟩ := q42
   refine Ow.Go.nr (S' := []) (st' := [(.int 2)]) ?_
   refine Ow.istoreN (pc' := 20) (Ls' := #[.val (.ref pa0), .val (.int 2), .val (.int 2)]) B e39_19 ?_
   refine Ow.iloadN (pc' := 21) B e39_20 ?_
   refine Ow.iloadN (pc' := 22) B e39_21 ?_
   refine Ow.icmpF (pc' := 25) B e39_22 (by decide) ?_
   refine Ow.aloadN (pc' := 26) B e39_25 ?_
   have f46 := hf1.keep Kh43 Ow.nin0
   refine Ow.getfield (pc' := 29) B e39_26 (w44 hw) Via.refl f46 ?_
   refine Ow.goto (pc' := 41) B e39_29 ?_
   exact Ow.retA (S' := []) (t := (.object "java/lang/String")) B e39_41 (Or.inr (Or.inr (Or.inr (Or.inl (⟨rfl, ((Keep.refl _ []).trans Kh43 (fun _ q => nomatch q)), c38, c39, c40, c45, rfl⟩)))))
  ·obtain ⟨rfl, Kh43, c47, c48, rfl⟩ := q42
   refine Ow.Go.nr (S' := []) (st' := [(.int 0)]) ?_
   refine Ow.istoreN (pc' := 20) (Ls' := #[.val (.ref pa0), .val (.int 2), .val (.int 0)]) B e39_19 ?_
   refine Ow.iloadN (pc' := 21) B e39_20 ?_
   refine Ow.iloadN (pc' := 22) B e39_21 ?_
   refine Ow.icmpT (pc' := 32) B e39_22 (by decide) ?_
   refine Ow.aloadN (pc' := 33) B e39_32 ?_
   have f49 := hf1.keep Kh43 Ow.nin0
   refine Ow.getfield (pc' := 36) B e39_33 (w44 hw) Via.refl f49 ?_
   refine Ow.iconst (pc' := 37) (x := 0) B e39_36 ?_
   refine Ow.iloadN (pc' := 38) B e39_37 ?_
   refine Ow.Go.old (fun o50 => ?_)
   have f51 := hf2.keep Kh43 Ow.nin0 Ow.nin0
   refine Ow.callVirtual (pc' := 41) (W := 0) (k' := 5) (n' := 32) (argsL := [(.int 0), (.int 0)]) (rest := []) (K := "java/lang/String") B e39_38 (w139 hw) (w140 hw) (w142 hw) (w142 hw) (w141 hw) (w11 hw) (w143 hw) (f51).1 (gSub hw G GS (cs := [px0, px1, px2, px3]) (i := 0) (e' := 0) o50 f51 (by decide) (by simp) (Or.inr (Ow.allI (own_seplo0 (c48)) (Ow.allI (own_seplo (c47)) (Ow.allI (own_seplo0 (c39)) (Ow.allI (own_seplo0 (c38)) Ow.allI0))))) (by simp) (by simp)) pd34 ?_
   intro vq52 h53 S54 q52 zh53
   obtain ⟨r55, t56, k57, rfl, Kh53, f58, rfl⟩ := q52
   have f58 : Ow.Chs Z h53 r55 t56 k57 [] := f58
   have lr55 : (r55 : Nat) < h53.size := f58.lt
   have lt56 : (t56 : Nat) < h53.size := f58.ltt
   refine Ow.Go.nr (S' := []) (st' := [(.ref r55)]) ?_
   exact Ow.retA (S' := []) (t := (.object "java/lang/String")) B e39_41 (Or.inr (Or.inr (Or.inr (Or.inr (Or.inl (⟨r55, t56, k57, rfl, (((Keep.refl _ []).trans Kh43 (fun _ q => nomatch q)).trans Kh53 (fun _ q => nomatch q)), c38, c39, c40, c47, c48, f58, rfl⟩))))))
  ·obtain ⟨rfl, Kh43, c59, c60, rfl⟩ := q42
   refine Ow.Go.nr (S' := []) (st' := [(.int 1)]) ?_
   refine Ow.istoreN (pc' := 20) (Ls' := #[.val (.ref pa0), .val (.int 2), .val (.int 1)]) B e39_19 ?_
   refine Ow.iloadN (pc' := 21) B e39_20 ?_
   refine Ow.iloadN (pc' := 22) B e39_21 ?_
   refine Ow.icmpT (pc' := 32) B e39_22 (by decide) ?_
   refine Ow.aloadN (pc' := 33) B e39_32 ?_
   have f61 := hf1.keep Kh43 Ow.nin0
   refine Ow.getfield (pc' := 36) B e39_33 (w44 hw) Via.refl f61 ?_
   refine Ow.iconst (pc' := 37) (x := 0) B e39_36 ?_
   refine Ow.iloadN (pc' := 38) B e39_37 ?_
   refine Ow.Go.old (fun o62 => ?_)
   have f63 := hf2.keep Kh43 Ow.nin0 Ow.nin0
   refine Ow.callVirtual (pc' := 41) (W := 0) (k' := 5) (n' := 32) (argsL := [(.int 0), (.int 1)]) (rest := []) (K := "java/lang/String") B e39_38 (w139 hw) (w140 hw) (w142 hw) (w142 hw) (w141 hw) (w11 hw) (w143 hw) (f63).1 (gSub hw G GS (cs := [px0, px1, px2, px3]) (i := 0) (e' := 1) o62 f63 (by decide) (by simp) (Or.inl (by decide)) (by simp) (by simp)) pd34 ?_
   intro vq64 h65 S66 q64 zh65
   obtain ⟨r67, t68, k69, rfl, Kh65, f70, rfl⟩ := q64
   have f70 : Ow.Chs Z h65 r67 t68 k69 [px0] := f70
   have lr67 : (r67 : Nat) < h65.size := f70.lt
   have lt68 : (t68 : Nat) < h65.size := f70.ltt
   refine Ow.Go.nr (S' := []) (st' := [(.ref r67)]) ?_
   exact Ow.retA (S' := []) (t := (.object "java/lang/String")) B e39_41 (Or.inr (Or.inr (Or.inr (Or.inr (Or.inr (Or.inl (⟨r67, t68, k69, rfl, (((Keep.refl _ []).trans Kh43 (fun _ q => nomatch q)).trans Kh65 (fun _ q => nomatch q)), c38, c39, c40, c59, c60, f70, rfl⟩)))))))
 ·obtain ⟨rfl, rfl, c71, c72, rfl⟩ := q6
  refine Ow.Go.nr (S' := []) (st' := [(.int 3)]) ?_
  refine Ow.istoreN (pc' := 13) (Ls' := #[.val (.ref pa0), .val (.int 3), .unset]) B e39_12 ?_
  refine Ow.aloadN (pc' := 14) B e39_13 ?_
  refine Ow.iconst (pc' := 15) (x := 0) B e39_14 ?_
  refine Ow.iloadN (pc' := 16) B e39_15 ?_
  refine Ow.Go.old (fun o73 => ?_)
  refine Ow.callPrivate (pc' := 19) (W := 0) (k' := 2) (n' := 16) (argsL := [(.int 0), (.int 3)]) (rest := []) (K := "com/example/elsewhere/elsewhere/Field$Subfield") B e39_16 (w66 hw) (w67 hw) (w68 hw) (w31 hw) (w32 hw) (w69 hw) hf0 (con_endBeforeSeparator_67 hw G GS (pa0 := pa0) (pa1 := pa1) (pa2 := pa2) (px0 := px0) (px1 := px1) (px2 := px2) (px3 := px3) (pk0 := pk0) o73 hf0 hf1 hf2 (by omega) (by omega) (hk2) hc_px0 hc_px1 hc_px2 hc_px3) pd14 ?_
  intro vq74 h75 S76 q74 zh75
  rcases q74 with q74 | q74 | q74 | q74
  ·obtain ⟨rfl, Kh75, c77, rfl⟩ := q74
   refine Ow.Go.nr (S' := []) (st' := [(.int 3)]) ?_
   refine Ow.istoreN (pc' := 20) (Ls' := #[.val (.ref pa0), .val (.int 3), .val (.int 3)]) B e39_19 ?_
   refine Ow.iloadN (pc' := 21) B e39_20 ?_
   refine Ow.iloadN (pc' := 22) B e39_21 ?_
   refine Ow.icmpF (pc' := 25) B e39_22 (by decide) ?_
   refine Ow.aloadN (pc' := 26) B e39_25 ?_
   have f78 := hf1.keep Kh75 Ow.nin0
   refine Ow.getfield (pc' := 29) B e39_26 (w44 hw) Via.refl f78 ?_
   refine Ow.goto (pc' := 41) B e39_29 ?_
   exact Ow.retA (S' := []) (t := (.object "java/lang/String")) B e39_41 (Or.inr (Or.inr (Or.inr (Or.inr (Or.inr (Or.inr (Or.inl (⟨rfl, ((Keep.refl _ []).trans Kh75 (fun _ q => nomatch q)), c71, c72, c77, rfl⟩))))))))
  ·obtain ⟨rfl, Kh75, c79, c80, c81, rfl⟩ := q74
   refine Ow.Go.nr (S' := []) (st' := [(.int 0)]) ?_
   refine Ow.istoreN (pc' := 20) (Ls' := #[.val (.ref pa0), .val (.int 3), .val (.int 0)]) B e39_19 ?_
   refine Ow.iloadN (pc' := 21) B e39_20 ?_
   refine Ow.iloadN (pc' := 22) B e39_21 ?_
   refine Ow.icmpT (pc' := 32) B e39_22 (by decide) ?_
   refine Ow.aloadN (pc' := 33) B e39_32 ?_
   have f82 := hf1.keep Kh75 Ow.nin0
   refine Ow.getfield (pc' := 36) B e39_33 (w44 hw) Via.refl f82 ?_
   refine Ow.iconst (pc' := 37) (x := 0) B e39_36 ?_
   refine Ow.iloadN (pc' := 38) B e39_37 ?_
   refine Ow.Go.old (fun o83 => ?_)
   have f84 := hf2.keep Kh75 Ow.nin0 Ow.nin0
   refine Ow.callVirtual (pc' := 41) (W := 0) (k' := 5) (n' := 32) (argsL := [(.int 0), (.int 0)]) (rest := []) (K := "java/lang/String") B e39_38 (w139 hw) (w140 hw) (w142 hw) (w142 hw) (w141 hw) (w11 hw) (w143 hw) (f84).1 (gSub hw G GS (cs := [px0, px1, px2, px3]) (i := 0) (e' := 0) o83 f84 (by decide) (by simp) (Or.inr (Ow.allI (own_seplo0 (c81)) (Ow.allI (own_seplo0 (c80)) (Ow.allI (own_seplo (c79)) (Ow.allI (own_seplo0 (c71)) Ow.allI0))))) (by simp) (by simp)) pd34 ?_
   intro vq85 h86 S87 q85 zh86
   obtain ⟨r88, t89, k90, rfl, Kh86, f91, rfl⟩ := q85
   have f91 : Ow.Chs Z h86 r88 t89 k90 [] := f91
   have lr88 : (r88 : Nat) < h86.size := f91.lt
   have lt89 : (t89 : Nat) < h86.size := f91.ltt
   refine Ow.Go.nr (S' := []) (st' := [(.ref r88)]) ?_
   exact Ow.retA (S' := []) (t := (.object "java/lang/String")) B e39_41 (Or.inr (Or.inr (Or.inr (Or.inr (Or.inr (Or.inr (Or.inr (Or.inl (⟨r88, t89, k90, rfl, (((Keep.refl _ []).trans Kh75 (fun _ q => nomatch q)).trans Kh86 (fun _ q => nomatch q)), c71, c72, c79, c80, c81, f91, rfl⟩)))))))))
  ·obtain ⟨rfl, Kh75, c92, c93, c94, rfl⟩ := q74
   refine Ow.Go.nr (S' := []) (st' := [(.int 1)]) ?_
   refine Ow.istoreN (pc' := 20) (Ls' := #[.val (.ref pa0), .val (.int 3), .val (.int 1)]) B e39_19 ?_
   refine Ow.iloadN (pc' := 21) B e39_20 ?_
   refine Ow.iloadN (pc' := 22) B e39_21 ?_
   refine Ow.icmpT (pc' := 32) B e39_22 (by decide) ?_
   refine Ow.aloadN (pc' := 33) B e39_32 ?_
   have f95 := hf1.keep Kh75 Ow.nin0
   refine Ow.getfield (pc' := 36) B e39_33 (w44 hw) Via.refl f95 ?_
   refine Ow.iconst (pc' := 37) (x := 0) B e39_36 ?_
   refine Ow.iloadN (pc' := 38) B e39_37 ?_
   refine Ow.Go.old (fun o96 => ?_)
   have f97 := hf2.keep Kh75 Ow.nin0 Ow.nin0
   refine Ow.callVirtual (pc' := 41) (W := 0) (k' := 5) (n' := 32) (argsL := [(.int 0), (.int 1)]) (rest := []) (K := "java/lang/String") B e39_38 (w139 hw) (w140 hw) (w142 hw) (w142 hw) (w141 hw) (w11 hw) (w143 hw) (f97).1 (gSub hw G GS (cs := [px0, px1, px2, px3]) (i := 0) (e' := 1) o96 f97 (by decide) (by simp) (Or.inl (by decide)) (by simp) (by simp)) pd34 ?_
   intro vq98 h99 S100 q98 zh99
   obtain ⟨r101, t102, k103, rfl, Kh99, f104, rfl⟩ := q98
   have f104 : Ow.Chs Z h99 r101 t102 k103 [px0] := f104
   have lr101 : (r101 : Nat) < h99.size := f104.lt
   have lt102 : (t102 : Nat) < h99.size := f104.ltt
   refine Ow.Go.nr (S' := []) (st' := [(.ref r101)]) ?_
   exact Ow.retA (S' := []) (t := (.object "java/lang/String")) B e39_41 (Or.inr (Or.inr (Or.inr (Or.inr (Or.inr (Or.inr (Or.inr (Or.inr (Or.inl (⟨r101, t102, k103, rfl, (((Keep.refl _ []).trans Kh75 (fun _ q => nomatch q)).trans Kh99 (fun _ q => nomatch q)), c71, c72, c92, c93, c94, f104, rfl⟩))))))))))
  ·obtain ⟨rfl, Kh75, c105, c106, rfl⟩ := q74
   refine Ow.Go.nr (S' := []) (st' := [(.int 2)]) ?_
   refine Ow.istoreN (pc' := 20) (Ls' := #[.val (.ref pa0), .val (.int 3), .val (.int 2)]) B e39_19 ?_
   refine Ow.iloadN (pc' := 21) B e39_20 ?_
   refine Ow.iloadN (pc' := 22) B e39_21 ?_
   refine Ow.icmpT (pc' := 32) B e39_22 (by decide) ?_
   refine Ow.aloadN (pc' := 33) B e39_32 ?_
   have f107 := hf1.keep Kh75 Ow.nin0
   refine Ow.getfield (pc' := 36) B e39_33 (w44 hw) Via.refl f107 ?_
   refine Ow.iconst (pc' := 37) (x := 0) B e39_36 ?_
   refine Ow.iloadN (pc' := 38) B e39_37 ?_
   refine Ow.Go.old (fun o108 => ?_)
   have f109 := hf2.keep Kh75 Ow.nin0 Ow.nin0
   refine Ow.callVirtual (pc' := 41) (W := 0) (k' := 5) (n' := 32) (argsL := [(.int 0), (.int 2)]) (rest := []) (K := "java/lang/String") B e39_38 (w139 hw) (w140 hw) (w142 hw) (w142 hw) (w141 hw) (w11 hw) (w143 hw) (f109).1 (gSub hw G GS (cs := [px0, px1, px2, px3]) (i := 0) (e' := 2) o108 f109 (by decide) (by simp) (Or.inl (by decide)) (by simp) (by simp)) pd34 ?_
   intro vq110 h111 S112 q110 zh111
   obtain ⟨r113, t114, k115, rfl, Kh111, f116, rfl⟩ := q110
   have f116 : Ow.Chs Z h111 r113 t114 k115 [px0, px1] := f116
   have lr113 : (r113 : Nat) < h111.size := f116.lt
   have lt114 : (t114 : Nat) < h111.size := f116.ltt
   refine Ow.Go.nr (S' := []) (st' := [(.ref r113)]) ?_
   exact Ow.retA (S' := []) (t := (.object "java/lang/String")) B e39_41 (Or.inr (Or.inr (Or.inr (Or.inr (Or.inr (Or.inr (Or.inr (Or.inr (Or.inr (Or.inl (⟨r113, t114, k115, rfl, (((Keep.refl _ []).trans Kh75 (fun _ q => nomatch q)).trans Kh111 (fun _ q => nomatch q)), c71, c72, c105, c106, f116, rfl⟩)))))))))))
 ·obtain ⟨rfl, rfl, c117, rfl⟩ := q6
  refine Ow.Go.nr (S' := []) (st' := [(.int 4)]) ?_
  refine Ow.istoreN (pc' := 13) (Ls' := #[.val (.ref pa0), .val (.int 4), .unset]) B e39_12 ?_
  refine Ow.aloadN (pc' := 14) B e39_13 ?_
  refine Ow.iconst (pc' := 15) (x := 0) B e39_14 ?_
  refine Ow.iloadN (pc' := 16) B e39_15 ?_
  refine Ow.Go.old (fun o118 => ?_)
  refine Ow.callPrivate (pc' := 19) (W := 0) (k' := 2) (n' := 16) (argsL := [(.int 0), (.int 4)]) (rest := []) (K := "com/example/elsewhere/elsewhere/Field$Subfield") B e39_16 (w66 hw) (w67 hw) (w68 hw) (w31 hw) (w32 hw) (w69 hw) hf0 (con_endBeforeSeparator_69 hw G GS (pa0 := pa0) (pa1 := pa1) (pa2 := pa2) (px0 := px0) (px1 := px1) (px2 := px2) (px3 := px3) (pk0 := pk0) o118 hf0 hf1 hf2 (by omega) (by omega) (hk3) hc_px0 hc_px1 hc_px2 hc_px3) pd14 ?_
  intro vq119 h120 S121 q119 zh120
  rcases q119 with q119 | q119 | q119 | q119 | q119
  ·obtain ⟨rfl, Kh120, c122, rfl⟩ := q119
   refine Ow.Go.nr (S' := []) (st' := [(.int 4)]) ?_
   refine Ow.istoreN (pc' := 20) (Ls' := #[.val (.ref pa0), .val (.int 4), .val (.int 4)]) B e39_19 ?_
   refine Ow.iloadN (pc' := 21) B e39_20 ?_
   refine Ow.iloadN (pc' := 22) B e39_21 ?_
   refine Ow.icmpF (pc' := 25) B e39_22 (by decide) ?_
   refine Ow.aloadN (pc' := 26) B e39_25 ?_
   have f123 := hf1.keep Kh120 Ow.nin0
   refine Ow.getfield (pc' := 29) B e39_26 (w44 hw) Via.refl f123 ?_
   refine Ow.goto (pc' := 41) B e39_29 ?_
   exact Ow.retA (S' := []) (t := (.object "java/lang/String")) B e39_41 (Or.inr (Or.inr (Or.inr (Or.inr (Or.inr (Or.inr (Or.inr (Or.inr (Or.inr (Or.inr (Or.inl (⟨rfl, ((Keep.refl _ []).trans Kh120 (fun _ q => nomatch q)), c117, c122, rfl⟩))))))))))))
  ·obtain ⟨rfl, Kh120, c124, c125, c126, c127, rfl⟩ := q119
   refine Ow.Go.nr (S' := []) (st' := [(.int 0)]) ?_
   refine Ow.istoreN (pc' := 20) (Ls' := #[.val (.ref pa0), .val (.int 4), .val (.int 0)]) B e39_19 ?_
   refine Ow.iloadN (pc' := 21) B e39_20 ?_
   refine Ow.iloadN (pc' := 22) B e39_21 ?_
   refine Ow.icmpT (pc' := 32) B e39_22 (by decide) ?_
   refine Ow.aloadN (pc' := 33) B e39_32 ?_
   have f128 := hf1.keep Kh120 Ow.nin0
   refine Ow.getfield (pc' := 36) B e39_33 (w44 hw) Via.refl f128 ?_
   refine Ow.iconst (pc' := 37) (x := 0) B e39_36 ?_
   refine Ow.iloadN (pc' := 38) B e39_37 ?_
   refine Ow.Go.old (fun o129 => ?_)
   have f130 := hf2.keep Kh120 Ow.nin0 Ow.nin0
   refine Ow.callVirtual (pc' := 41) (W := 0) (k' := 5) (n' := 32) (argsL := [(.int 0), (.int 0)]) (rest := []) (K := "java/lang/String") B e39_38 (w139 hw) (w140 hw) (w142 hw) (w142 hw) (w141 hw) (w11 hw) (w143 hw) (f130).1 (gSub hw G GS (cs := [px0, px1, px2, px3]) (i := 0) (e' := 0) o129 f130 (by decide) (by simp) (Or.inr (Ow.allI (own_seplo0 (c127)) (Ow.allI (own_seplo0 (c126)) (Ow.allI (own_seplo0 (c125)) (Ow.allI (own_seplo (c124)) Ow.allI0))))) (by simp) (by simp)) pd34 ?_
   intro vq131 h132 S133 q131 zh132
   obtain ⟨r134, t135, k136, rfl, Kh132, f137, rfl⟩ := q131
   have f137 : Ow.Chs Z h132 r134 t135 k136 [] := f137
   have lr134 : (r134 : Nat) < h132.size := f137.lt
   have lt135 : (t135 : Nat) < h132.size := f137.ltt
   refine Ow.Go.nr (S' := []) (st' := [(.ref r134)]) ?_
   exact Ow.retA (S' := []) (t := (.object "java/lang/String")) B e39_41 (Or.inr (Or.inr (Or.inr (Or.inr (Or.inr (Or.inr (Or.inr (Or.inr (Or.inr (Or.inr (Or.inr (Or.inl (⟨r134, t135, k136, rfl, (((Keep.refl _ []).trans Kh120 (fun _ q => nomatch q)).trans Kh132 (fun _ q => nomatch q)), c117, c124, c125, c126, c127, f137, rfl⟩)))))))))))))
  ·obtain ⟨rfl, Kh120, c138, c139, c140, c141, rfl⟩ := q119
   refine Ow.Go.nr (S' := []) (st' := [(.int 1)]) ?_
   refine Ow.istoreN (pc' := 20) (Ls' := #[.val (.ref pa0), .val (.int 4), .val (.int 1)]) B e39_19 ?_
   refine Ow.iloadN (pc' := 21) B e39_20 ?_
   refine Ow.iloadN (pc' := 22) B e39_21 ?_
   refine Ow.icmpT (pc' := 32) B e39_22 (by decide) ?_
   refine Ow.aloadN (pc' := 33) B e39_32 ?_
   have f142 := hf1.keep Kh120 Ow.nin0
   refine Ow.getfield (pc' := 36) B e39_33 (w44 hw) Via.refl f142 ?_
   refine Ow.iconst (pc' := 37) (x := 0) B e39_36 ?_
   refine Ow.iloadN (pc' := 38) B e39_37 ?_
   refine Ow.Go.old (fun o143 => ?_)
   have f144 := hf2.keep Kh120 Ow.nin0 Ow.nin0
   refine Ow.callVirtual (pc' := 41) (W := 0) (k' := 5) (n' := 32) (argsL := [(.int 0), (.int 1)]) (rest := []) (K := "java/lang/String") B e39_38 (w139 hw) (w140 hw) (w142 hw) (w142 hw) (w141 hw) (w11 hw) (w143 hw) (f144).1 (gSub hw G GS (cs := [px0, px1, px2, px3]) (i := 0) (e' := 1) o143 f144 (by decide) (by simp) (Or.inl (by decide)) (by simp) (by simp)) pd34 ?_
   intro vq145 h146 S147 q145 zh146
   obtain ⟨r148, t149, k150, rfl, Kh146, f151, rfl⟩ := q145
   have f151 : Ow.Chs Z h146 r148 t149 k150 [px0] := f151
   have lr148 : (r148 : Nat) < h146.size := f151.lt
   have lt149 : (t149 : Nat) < h146.size := f151.ltt
   refine Ow.Go.nr (S' := []) (st' := [(.ref r148)]) ?_
   exact Ow.retA (S' := []) (t := (.object "java/lang/String")) B e39_41 (Or.inr (Or.inr (Or.inr (Or.inr (Or.inr (Or.inr (Or.inr (Or.inr (Or.inr (Or.inr (Or.inr (Or.inr (Or.inl (⟨r148, t149, k150, rfl, (((Keep.refl _ []).trans Kh120 (fun _ q => nomatch q)).trans Kh146 (fun _ q => nomatch q)), c117, c138, c139, c140, c141, f151, rfl⟩))))))))))))))
  ·obtain ⟨rfl, Kh120, c152, c153, c154, rfl⟩ := q119
   refine Ow.Go.nr (S' := []) (st' := [(.int 2)]) ?_
   refine Ow.istoreN (pc' := 20) (Ls' := #[.val (.ref pa0), .val (.int 4), .val (.int 2)]) B e39_19 ?_
   refine Ow.iloadN (pc' := 21) B e39_20 ?_
   refine Ow.iloadN (pc' := 22) B e39_21 ?_
   refine Ow.icmpT (pc' := 32) B e39_22 (by decide) ?_
   refine Ow.aloadN (pc' := 33) B e39_32 ?_
   have f155 := hf1.keep Kh120 Ow.nin0
   refine Ow.getfield (pc' := 36) B e39_33 (w44 hw) Via.refl f155 ?_
   refine Ow.iconst (pc' := 37) (x := 0) B e39_36 ?_
   refine Ow.iloadN (pc' := 38) B e39_37 ?_
   refine Ow.Go.old (fun o156 => ?_)
   have f157 := hf2.keep Kh120 Ow.nin0 Ow.nin0
   refine Ow.callVirtual (pc' := 41) (W := 0) (k' := 5) (n' := 32) (argsL := [(.int 0), (.int 2)]) (rest := []) (K := "java/lang/String") B e39_38 (w139 hw) (w140 hw) (w142 hw) (w142 hw) (w141 hw) (w11 hw) (w143 hw) (f157).1 (gSub hw G GS (cs := [px0, px1, px2, px3]) (i := 0) (e' := 2) o156 f157 (by decide) (by simp) (Or.inl (by decide)) (by simp) (by simp)) pd34 ?_
   intro vq158 h159 S160 q158 zh159
   obtain ⟨r161, t162, k163, rfl, Kh159, f164, rfl⟩ := q158
   have f164 : Ow.Chs Z h159 r161 t162 k163 [px0, px1] := f164
   have lr161 : (r161 : Nat) < h159.size := f164.lt
   have lt162 : (t162 : Nat) < h159.size := f164.ltt
   refine Ow.Go.nr (S' := []) (st' := [(.ref r161)]) ?_
   exact Ow.retA (S' := []) (t := (.object "java/lang/String")) B e39_41 (Or.inr (Or.inr (Or.inr (Or.inr (Or.inr (Or.inr (Or.inr (Or.inr (Or.inr (Or.inr (Or.inr (Or.inr (Or.inr (Or.inl (⟨r161, t162, k163, rfl, (((Keep.refl _ []).trans Kh120 (fun _ q => nomatch q)).trans Kh159 (fun _ q => nomatch q)), c117, c152, c153, c154, f164, rfl⟩)))))))))))))))
  ·obtain ⟨rfl, Kh120, c165, c166, rfl⟩ := q119
   refine Ow.Go.nr (S' := []) (st' := [(.int 3)]) ?_
   refine Ow.istoreN (pc' := 20) (Ls' := #[.val (.ref pa0), .val (.int 4), .val (.int 3)]) B e39_19 ?_
   refine Ow.iloadN (pc' := 21) B e39_20 ?_
   refine Ow.iloadN (pc' := 22) B e39_21 ?_
   refine Ow.icmpT (pc' := 32) B e39_22 (by decide) ?_
   refine Ow.aloadN (pc' := 33) B e39_32 ?_
   have f167 := hf1.keep Kh120 Ow.nin0
   refine Ow.getfield (pc' := 36) B e39_33 (w44 hw) Via.refl f167 ?_
   refine Ow.iconst (pc' := 37) (x := 0) B e39_36 ?_
   refine Ow.iloadN (pc' := 38) B e39_37 ?_
   refine Ow.Go.old (fun o168 => ?_)
   have f169 := hf2.keep Kh120 Ow.nin0 Ow.nin0
   refine Ow.callVirtual (pc' := 41) (W := 0) (k' := 5) (n' := 32) (argsL := [(.int 0), (.int 3)]) (rest := []) (K := "java/lang/String") B e39_38 (w139 hw) (w140 hw) (w142 hw) (w142 hw) (w141 hw) (w11 hw) (w143 hw) (f169).1 (gSub hw G GS (cs := [px0, px1, px2, px3]) (i := 0) (e' := 3) o168 f169 (by decide) (by simp) (Or.inl (by decide)) (by simp) (by simp)) pd34 ?_
   intro vq170 h171 S172 q170 zh171
   obtain ⟨r173, t174, k175, rfl, Kh171, f176, rfl⟩ := q170
   have f176 : Ow.Chs Z h171 r173 t174 k175 [px0, px1, px2] := f176
   have lr173 : (r173 : Nat) < h171.size := f176.lt
   have lt174 : (t174 : Nat) < h171.size := f176.ltt
   refine Ow.Go.nr (S' := []) (st' := [(.ref r173)]) ?_
   exact Ow.retA (S' := []) (t := (.object "java/lang/String")) B e39_41 (Or.inr (Or.inr (Or.inr (Or.inr (Or.inr (Or.inr (Or.inr (Or.inr (Or.inr (Or.inr (Or.inr (Or.inr (Or.inr (Or.inr (⟨r173, t174, k175, rfl, (((Keep.refl _ []).trans Kh120 (fun _ q => nomatch q)).trans Kh171 (fun _ q => nomatch q)), c117, c165, c166, f176, rfl⟩)))))))))))))))
set_option maxRecDepth 65536 in
set_option maxHeartbeats 40000000 in
theorem con_strip_71 (hw : Hw a0 Z) (G : Ow.Glo Z cz sf) (GS : GlS Z) {pa0 : Nat} {px0 : Int32} {px1 : Int32} {px2 : Int32} {px3 : Int32} {pk0 : ClassId} {h0 : Heap} (O0 : Old Z n0 h0) (hf0 : Arv Z h0 pa0 pk0 .char (4 : Int32) [(.int px0), (.int px1), (.int px2), (.int px3)] (.int 0)) (hn0 : n0 ≤ pa0) (hk0 : px3 = (32 : Int32)) (hk1 : px2 = (32 : Int32)) (hk2 : px1 = (32 : Int32)) (hk3 : px0 = (32 : Int32)) (hc_px0 : nar .char px0 = px0) (hc_px1 : nar .char px1 = px1) (hc_px2 : nar .char px2 = px2) (hc_px3 : nar .char px3 = px3) :
    Ow.Con l Z EL1 n0 my42 method_4_code 3 (Option.some Jvm.ClassFile.FieldType.int) [] ({ frames := 0, cells := 0, slots := 0, locals := 0 } : Room) #[(.ref pa0), (.int 4)] [] h0 (fun v h S' => (v = some (.int 0) ∧ h = h0 ∧ S' = [])) := by
 refine Ow.Con.enter (Ls := #[.val (.ref pa0), .val (.int 4), .unset]) (plainFor_of_name pn5) O0 (hEW hw) (hSA hw) ?_
 intro p e s m below meth c B
 have z0 := Ow.old_le O0
 have lpa0 : (pa0 : Nat) < h0.size := hf0.lt
 refine Ow.iloadN (pc' := 1) B e42_0 ?_
 refine Ow.istoreN (pc' := 2) (Ls' := #[.val (.ref pa0), .val (.int 4), .val (.int 4)]) B e42_1 ?_
 refine Ow.iloadN (pc' := 3) B e42_2 ?_
 refine Ow.ifF (pc' := 6) B e42_3 (by decide) ?_
 refine Ow.aloadN (pc' := 7) B e42_6 ?_
 refine Ow.iloadN (pc' := 8) B e42_7 ?_
 refine Ow.iconst (pc' := 9) (x := 1) B e42_8 ?_
 refine Ow.isub (pc' := 10) (z := 3) B e42_9 ?_
 refine Ow.caload (pc' := 11) B e42_10 hf0 ⟨by decide, by decide⟩ rfl ?_
 refine Ow.bipush (pc' := 13) (x := 32) B e42_11 ?_
 refine Ow.icmpF (pc' := 16) B e42_13 (teq (hk0)).2 ?_
 refine Ow.iinc (pc' := 19) (y := 3) (Ls' := #[.val (.ref pa0), .val (.int 4), .val (.int 3)]) B e42_16 ?_
 refine Ow.iloadN (pc' := 20) B e42_19 ?_
 refine Ow.ifF (pc' := 23) B e42_20 (by decide) ?_
 refine Ow.aloadN (pc' := 24) B e42_23 ?_
 refine Ow.iloadN (pc' := 25) B e42_24 ?_
 refine Ow.iconst (pc' := 26) (x := 1) B e42_25 ?_
 refine Ow.isub (pc' := 27) (z := 2) B e42_26 ?_
 refine Ow.caload (pc' := 28) B e42_27 hf0 ⟨by decide, by decide⟩ rfl ?_
 refine Ow.bipush (pc' := 30) (x := 32) B e42_28 ?_
 refine Ow.icmpF (pc' := 33) B e42_30 (teq (hk1)).2 ?_
 refine Ow.iinc (pc' := 36) (y := 2) (Ls' := #[.val (.ref pa0), .val (.int 4), .val (.int 2)]) B e42_33 ?_
 refine Ow.iloadN (pc' := 37) B e42_36 ?_
 refine Ow.ifF (pc' := 40) B e42_37 (by decide) ?_
 refine Ow.aloadN (pc' := 41) B e42_40 ?_
 refine Ow.iloadN (pc' := 42) B e42_41 ?_
 refine Ow.iconst (pc' := 43) (x := 1) B e42_42 ?_
 refine Ow.isub (pc' := 44) (z := 1) B e42_43 ?_
 refine Ow.caload (pc' := 45) B e42_44 hf0 ⟨by decide, by decide⟩ rfl ?_
 refine Ow.bipush (pc' := 47) (x := 32) B e42_45 ?_
 refine Ow.icmpF (pc' := 50) B e42_47 (teq (hk2)).2 ?_
 refine Ow.iinc (pc' := 53) (y := 1) (Ls' := #[.val (.ref pa0), .val (.int 4), .val (.int 1)]) B e42_50 ?_
 refine Ow.iloadN (pc' := 54) B e42_53 ?_
 refine Ow.ifF (pc' := 57) B e42_54 (by decide) ?_
 refine Ow.aloadN (pc' := 58) B e42_57 ?_
 refine Ow.iloadN (pc' := 59) B e42_58 ?_
 refine Ow.iconst (pc' := 60) (x := 1) B e42_59 ?_
 refine Ow.isub (pc' := 61) (z := 0) B e42_60 ?_
 refine Ow.caload (pc' := 62) B e42_61 hf0 ⟨by decide, by decide⟩ rfl ?_
 refine Ow.bipush (pc' := 64) (x := 32) B e42_62 ?_
 refine Ow.icmpF (pc' := 67) B e42_64 (teq (hk3)).2 ?_
 refine Ow.iinc (pc' := 70) (y := 0) (Ls' := #[.val (.ref pa0), .val (.int 4), .val (.int 0)]) B e42_67 ?_
 refine Ow.iloadN (pc' := 71) B e42_70 ?_
 exact Ow.retI (S' := []) (t := .int) B e42_71 (⟨rfl, rfl, rfl⟩)
set_option maxRecDepth 65536 in
set_option maxHeartbeats 40000000 in
theorem con_strip_72 (hw : Hw a0 Z) (G : Ow.Glo Z cz sf) (GS : GlS Z) {pa0 : Nat} {px0 : Int32} {px1 : Int32} {px2 : Int32} {px3 : Int32} {pk0 : ClassId} {h0 : Heap} (O0 : Old Z n0 h0) (hf0 : Arv Z h0 pa0 pk0 .char (4 : Int32) [(.int px0), (.int px1), (.int px2), (.int px3)] (.int 0)) (hn0 : n0 ≤ pa0) (hk0 : px3 = (32 : Int32)) (hk1 : px2 = (32 : Int32)) (hk2 : px1 = (32 : Int32)) (hk3 : ¬ (px0 = (32 : Int32))) (hc_px0 : nar .char px0 = px0) (hc_px1 : nar .char px1 = px1) (hc_px2 : nar .char px2 = px2) (hc_px3 : nar .char px3 = px3) :
    Ow.Con l Z EL1 n0 my42 method_4_code 3 (Option.some Jvm.ClassFile.FieldType.int) [] ({ frames := 0, cells := 0, slots := 0, locals := 0 } : Room) #[(.ref pa0), (.int 4)] [] h0 (fun v h S' => (v = some (.int 1) ∧ h = h0 ∧ S' = [])) := by
 refine Ow.Con.enter (Ls := #[.val (.ref pa0), .val (.int 4), .unset]) (plainFor_of_name pn5) O0 (hEW hw) (hSA hw) ?_
 intro p e s m below meth c B
 have z0 := Ow.old_le O0
 have lpa0 : (pa0 : Nat) < h0.size := hf0.lt
 refine Ow.iloadN (pc' := 1) B e42_0 ?_
 refine Ow.istoreN (pc' := 2) (Ls' := #[.val (.ref pa0), .val (.int 4), .val (.int 4)]) B e42_1 ?_
 refine Ow.iloadN (pc' := 3) B e42_2 ?_
 refine Ow.ifF (pc' := 6) B e42_3 (by decide) ?_
 refine Ow.aloadN (pc' := 7) B e42_6 ?_
 refine Ow.iloadN (pc' := 8) B e42_7 ?_
 refine Ow.iconst (pc' := 9) (x := 1) B e42_8 ?_
 refine Ow.isub (pc' := 10) (z := 3) B e42_9 ?_
 refine Ow.caload (pc' := 11) B e42_10 hf0 ⟨by decide, by decide⟩ rfl ?_
 refine Ow.bipush (pc' := 13) (x := 32) B e42_11 ?_
 refine Ow.icmpF (pc' := 16) B e42_13 (teq (hk0)).2 ?_
 refine Ow.iinc (pc' := 19) (y := 3) (Ls' := #[.val (.ref pa0), .val (.int 4), .val (.int 3)]) B e42_16 ?_
 refine Ow.iloadN (pc' := 20) B e42_19 ?_
 refine Ow.ifF (pc' := 23) B e42_20 (by decide) ?_
 refine Ow.aloadN (pc' := 24) B e42_23 ?_
 refine Ow.iloadN (pc' := 25) B e42_24 ?_
 refine Ow.iconst (pc' := 26) (x := 1) B e42_25 ?_
 refine Ow.isub (pc' := 27) (z := 2) B e42_26 ?_
 refine Ow.caload (pc' := 28) B e42_27 hf0 ⟨by decide, by decide⟩ rfl ?_
 refine Ow.bipush (pc' := 30) (x := 32) B e42_28 ?_
 refine Ow.icmpF (pc' := 33) B e42_30 (teq (hk1)).2 ?_
 refine Ow.iinc (pc' := 36) (y := 2) (Ls' := #[.val (.ref pa0), .val (.int 4), .val (.int 2)]) B e42_33 ?_
 refine Ow.iloadN (pc' := 37) B e42_36 ?_
 refine Ow.ifF (pc' := 40) B e42_37 (by decide) ?_
 refine Ow.aloadN (pc' := 41) B e42_40 ?_
 refine Ow.iloadN (pc' := 42) B e42_41 ?_
 refine Ow.iconst (pc' := 43) (x := 1) B e42_42 ?_
 refine Ow.isub (pc' := 44) (z := 1) B e42_43 ?_
 refine Ow.caload (pc' := 45) B e42_44 hf0 ⟨by decide, by decide⟩ rfl ?_
 refine Ow.bipush (pc' := 47) (x := 32) B e42_45 ?_
 refine Ow.icmpF (pc' := 50) B e42_47 (teq (hk2)).2 ?_
 refine Ow.iinc (pc' := 53) (y := 1) (Ls' := #[.val (.ref pa0), .val (.int 4), .val (.int 1)]) B e42_50 ?_
 refine Ow.iloadN (pc' := 54) B e42_53 ?_
 refine Ow.ifF (pc' := 57) B e42_54 (by decide) ?_
 refine Ow.aloadN (pc' := 58) B e42_57 ?_
 refine Ow.iloadN (pc' := 59) B e42_58 ?_
 refine Ow.iconst (pc' := 60) (x := 1) B e42_59 ?_
 refine Ow.isub (pc' := 61) (z := 0) B e42_60 ?_
 refine Ow.caload (pc' := 62) B e42_61 hf0 ⟨by decide, by decide⟩ rfl ?_
 refine Ow.bipush (pc' := 64) (x := 32) B e42_62 ?_
 refine Ow.icmpT (pc' := 70) B e42_64 (feq (hk3)).2 ?_
 refine Ow.iloadN (pc' := 71) B e42_70 ?_
 exact Ow.retI (S' := []) (t := .int) B e42_71 (⟨rfl, rfl, rfl⟩)
set_option maxRecDepth 65536 in
set_option maxHeartbeats 40000000 in
theorem con_strip_73 (hw : Hw a0 Z) (G : Ow.Glo Z cz sf) (GS : GlS Z) {pa0 : Nat} {px0 : Int32} {px1 : Int32} {px2 : Int32} {px3 : Int32} {pk0 : ClassId} {h0 : Heap} (O0 : Old Z n0 h0) (hf0 : Arv Z h0 pa0 pk0 .char (4 : Int32) [(.int px0), (.int px1), (.int px2), (.int px3)] (.int 0)) (hn0 : n0 ≤ pa0) (hk0 : px3 = (32 : Int32)) (hk1 : px2 = (32 : Int32)) (hk2 : ¬ (px1 = (32 : Int32))) (hc_px0 : nar .char px0 = px0) (hc_px1 : nar .char px1 = px1) (hc_px2 : nar .char px2 = px2) (hc_px3 : nar .char px3 = px3) :
    Ow.Con l Z EL1 n0 my42 method_4_code 3 (Option.some Jvm.ClassFile.FieldType.int) [] ({ frames := 0, cells := 0, slots := 0, locals := 0 } : Room) #[(.ref pa0), (.int 4)] [] h0 (fun v h S' => (v = some (.int 2) ∧ h = h0 ∧ S' = [])) := by
 refine Ow.Con.enter (Ls := #[.val (.ref pa0), .val (.int 4), .unset]) (plainFor_of_name pn5) O0 (hEW hw) (hSA hw) ?_
 intro p e s m below meth c B
 have z0 := Ow.old_le O0
 have lpa0 : (pa0 : Nat) < h0.size := hf0.lt
 refine Ow.iloadN (pc' := 1) B e42_0 ?_
 refine Ow.istoreN (pc' := 2) (Ls' := #[.val (.ref pa0), .val (.int 4), .val (.int 4)]) B e42_1 ?_
 refine Ow.iloadN (pc' := 3) B e42_2 ?_
 refine Ow.ifF (pc' := 6) B e42_3 (by decide) ?_
 refine Ow.aloadN (pc' := 7) B e42_6 ?_
 refine Ow.iloadN (pc' := 8) B e42_7 ?_
 refine Ow.iconst (pc' := 9) (x := 1) B e42_8 ?_
 refine Ow.isub (pc' := 10) (z := 3) B e42_9 ?_
 refine Ow.caload (pc' := 11) B e42_10 hf0 ⟨by decide, by decide⟩ rfl ?_
 refine Ow.bipush (pc' := 13) (x := 32) B e42_11 ?_
 refine Ow.icmpF (pc' := 16) B e42_13 (teq (hk0)).2 ?_
 refine Ow.iinc (pc' := 19) (y := 3) (Ls' := #[.val (.ref pa0), .val (.int 4), .val (.int 3)]) B e42_16 ?_
 refine Ow.iloadN (pc' := 20) B e42_19 ?_
 refine Ow.ifF (pc' := 23) B e42_20 (by decide) ?_
 refine Ow.aloadN (pc' := 24) B e42_23 ?_
 refine Ow.iloadN (pc' := 25) B e42_24 ?_
 refine Ow.iconst (pc' := 26) (x := 1) B e42_25 ?_
 refine Ow.isub (pc' := 27) (z := 2) B e42_26 ?_
 refine Ow.caload (pc' := 28) B e42_27 hf0 ⟨by decide, by decide⟩ rfl ?_
 refine Ow.bipush (pc' := 30) (x := 32) B e42_28 ?_
 refine Ow.icmpF (pc' := 33) B e42_30 (teq (hk1)).2 ?_
 refine Ow.iinc (pc' := 36) (y := 2) (Ls' := #[.val (.ref pa0), .val (.int 4), .val (.int 2)]) B e42_33 ?_
 refine Ow.iloadN (pc' := 37) B e42_36 ?_
 refine Ow.ifF (pc' := 40) B e42_37 (by decide) ?_
 refine Ow.aloadN (pc' := 41) B e42_40 ?_
 refine Ow.iloadN (pc' := 42) B e42_41 ?_
 refine Ow.iconst (pc' := 43) (x := 1) B e42_42 ?_
 refine Ow.isub (pc' := 44) (z := 1) B e42_43 ?_
 refine Ow.caload (pc' := 45) B e42_44 hf0 ⟨by decide, by decide⟩ rfl ?_
 refine Ow.bipush (pc' := 47) (x := 32) B e42_45 ?_
 refine Ow.icmpT (pc' := 53) B e42_47 (feq (hk2)).2 ?_
 refine Ow.iloadN (pc' := 54) B e42_53 ?_
 refine Ow.ifF (pc' := 57) B e42_54 (by decide) ?_
 refine Ow.aloadN (pc' := 58) B e42_57 ?_
 refine Ow.iloadN (pc' := 59) B e42_58 ?_
 refine Ow.iconst (pc' := 60) (x := 1) B e42_59 ?_
 refine Ow.isub (pc' := 61) (z := 1) B e42_60 ?_
 refine Ow.caload (pc' := 62) B e42_61 hf0 ⟨by decide, by decide⟩ rfl ?_
 refine Ow.bipush (pc' := 64) (x := 32) B e42_62 ?_
 refine Ow.icmpT (pc' := 70) B e42_64 (feq (hk2)).2 ?_
 refine Ow.iloadN (pc' := 71) B e42_70 ?_
 exact Ow.retI (S' := []) (t := .int) B e42_71 (⟨rfl, rfl, rfl⟩)
set_option maxRecDepth 65536 in
set_option maxHeartbeats 40000000 in
theorem con_strip_74 (hw : Hw a0 Z) (G : Ow.Glo Z cz sf) (GS : GlS Z) {pa0 : Nat} {px0 : Int32} {px1 : Int32} {px2 : Int32} {px3 : Int32} {pk0 : ClassId} {h0 : Heap} (O0 : Old Z n0 h0) (hf0 : Arv Z h0 pa0 pk0 .char (4 : Int32) [(.int px0), (.int px1), (.int px2), (.int px3)] (.int 0)) (hn0 : n0 ≤ pa0) (hk0 : px3 = (32 : Int32)) (hk1 : ¬ (px2 = (32 : Int32))) (hc_px0 : nar .char px0 = px0) (hc_px1 : nar .char px1 = px1) (hc_px2 : nar .char px2 = px2) (hc_px3 : nar .char px3 = px3) :
    Ow.Con l Z EL1 n0 my42 method_4_code 3 (Option.some Jvm.ClassFile.FieldType.int) [] ({ frames := 0, cells := 0, slots := 0, locals := 0 } : Room) #[(.ref pa0), (.int 4)] [] h0 (fun v h S' => (v = some (.int 3) ∧ h = h0 ∧ S' = [])) := by
 refine Ow.Con.enter (Ls := #[.val (.ref pa0), .val (.int 4), .unset]) (plainFor_of_name pn5) O0 (hEW hw) (hSA hw) ?_
 intro p e s m below meth c B
 have z0 := Ow.old_le O0
 have lpa0 : (pa0 : Nat) < h0.size := hf0.lt
 refine Ow.iloadN (pc' := 1) B e42_0 ?_
 refine Ow.istoreN (pc' := 2) (Ls' := #[.val (.ref pa0), .val (.int 4), .val (.int 4)]) B e42_1 ?_
 refine Ow.iloadN (pc' := 3) B e42_2 ?_
 refine Ow.ifF (pc' := 6) B e42_3 (by decide) ?_
 refine Ow.aloadN (pc' := 7) B e42_6 ?_
 refine Ow.iloadN (pc' := 8) B e42_7 ?_
 refine Ow.iconst (pc' := 9) (x := 1) B e42_8 ?_
 refine Ow.isub (pc' := 10) (z := 3) B e42_9 ?_
 refine Ow.caload (pc' := 11) B e42_10 hf0 ⟨by decide, by decide⟩ rfl ?_
 refine Ow.bipush (pc' := 13) (x := 32) B e42_11 ?_
 refine Ow.icmpF (pc' := 16) B e42_13 (teq (hk0)).2 ?_
 refine Ow.iinc (pc' := 19) (y := 3) (Ls' := #[.val (.ref pa0), .val (.int 4), .val (.int 3)]) B e42_16 ?_
 refine Ow.iloadN (pc' := 20) B e42_19 ?_
 refine Ow.ifF (pc' := 23) B e42_20 (by decide) ?_
 refine Ow.aloadN (pc' := 24) B e42_23 ?_
 refine Ow.iloadN (pc' := 25) B e42_24 ?_
 refine Ow.iconst (pc' := 26) (x := 1) B e42_25 ?_
 refine Ow.isub (pc' := 27) (z := 2) B e42_26 ?_
 refine Ow.caload (pc' := 28) B e42_27 hf0 ⟨by decide, by decide⟩ rfl ?_
 refine Ow.bipush (pc' := 30) (x := 32) B e42_28 ?_
 refine Ow.icmpT (pc' := 36) B e42_30 (feq (hk1)).2 ?_
 refine Ow.iloadN (pc' := 37) B e42_36 ?_
 refine Ow.ifF (pc' := 40) B e42_37 (by decide) ?_
 refine Ow.aloadN (pc' := 41) B e42_40 ?_
 refine Ow.iloadN (pc' := 42) B e42_41 ?_
 refine Ow.iconst (pc' := 43) (x := 1) B e42_42 ?_
 refine Ow.isub (pc' := 44) (z := 2) B e42_43 ?_
 refine Ow.caload (pc' := 45) B e42_44 hf0 ⟨by decide, by decide⟩ rfl ?_
 refine Ow.bipush (pc' := 47) (x := 32) B e42_45 ?_
 refine Ow.icmpT (pc' := 53) B e42_47 (feq (hk1)).2 ?_
 refine Ow.iloadN (pc' := 54) B e42_53 ?_
 refine Ow.ifF (pc' := 57) B e42_54 (by decide) ?_
 refine Ow.aloadN (pc' := 58) B e42_57 ?_
 refine Ow.iloadN (pc' := 59) B e42_58 ?_
 refine Ow.iconst (pc' := 60) (x := 1) B e42_59 ?_
 refine Ow.isub (pc' := 61) (z := 2) B e42_60 ?_
 refine Ow.caload (pc' := 62) B e42_61 hf0 ⟨by decide, by decide⟩ rfl ?_
 refine Ow.bipush (pc' := 64) (x := 32) B e42_62 ?_
 refine Ow.icmpT (pc' := 70) B e42_64 (feq (hk1)).2 ?_
 refine Ow.iloadN (pc' := 71) B e42_70 ?_
 exact Ow.retI (S' := []) (t := .int) B e42_71 (⟨rfl, rfl, rfl⟩)
set_option maxRecDepth 65536 in
set_option maxHeartbeats 40000000 in
theorem con_strip_75 (hw : Hw a0 Z) (G : Ow.Glo Z cz sf) (GS : GlS Z) {pa0 : Nat} {px0 : Int32} {px1 : Int32} {px2 : Int32} {px3 : Int32} {pk0 : ClassId} {h0 : Heap} (O0 : Old Z n0 h0) (hf0 : Arv Z h0 pa0 pk0 .char (4 : Int32) [(.int px0), (.int px1), (.int px2), (.int px3)] (.int 0)) (hn0 : n0 ≤ pa0) (hk0 : ¬ (px3 = (32 : Int32))) (hc_px0 : nar .char px0 = px0) (hc_px1 : nar .char px1 = px1) (hc_px2 : nar .char px2 = px2) (hc_px3 : nar .char px3 = px3) :
    Ow.Con l Z EL1 n0 my42 method_4_code 3 (Option.some Jvm.ClassFile.FieldType.int) [] ({ frames := 0, cells := 0, slots := 0, locals := 0 } : Room) #[(.ref pa0), (.int 4)] [] h0 (fun v h S' => (v = some (.int 4) ∧ h = h0 ∧ S' = [])) := by
 refine Ow.Con.enter (Ls := #[.val (.ref pa0), .val (.int 4), .unset]) (plainFor_of_name pn5) O0 (hEW hw) (hSA hw) ?_
 intro p e s m below meth c B
 have z0 := Ow.old_le O0
 have lpa0 : (pa0 : Nat) < h0.size := hf0.lt
 refine Ow.iloadN (pc' := 1) B e42_0 ?_
 refine Ow.istoreN (pc' := 2) (Ls' := #[.val (.ref pa0), .val (.int 4), .val (.int 4)]) B e42_1 ?_
 refine Ow.iloadN (pc' := 3) B e42_2 ?_
 refine Ow.ifF (pc' := 6) B e42_3 (by decide) ?_
 refine Ow.aloadN (pc' := 7) B e42_6 ?_
 refine Ow.iloadN (pc' := 8) B e42_7 ?_
 refine Ow.iconst (pc' := 9) (x := 1) B e42_8 ?_
 refine Ow.isub (pc' := 10) (z := 3) B e42_9 ?_
 refine Ow.caload (pc' := 11) B e42_10 hf0 ⟨by decide, by decide⟩ rfl ?_
 refine Ow.bipush (pc' := 13) (x := 32) B e42_11 ?_
 refine Ow.icmpT (pc' := 19) B e42_13 (feq (hk0)).2 ?_
 refine Ow.iloadN (pc' := 20) B e42_19 ?_
 refine Ow.ifF (pc' := 23) B e42_20 (by decide) ?_
 refine Ow.aloadN (pc' := 24) B e42_23 ?_
 refine Ow.iloadN (pc' := 25) B e42_24 ?_
 refine Ow.iconst (pc' := 26) (x := 1) B e42_25 ?_
 refine Ow.isub (pc' := 27) (z := 3) B e42_26 ?_
 refine Ow.caload (pc' := 28) B e42_27 hf0 ⟨by decide, by decide⟩ rfl ?_
 refine Ow.bipush (pc' := 30) (x := 32) B e42_28 ?_
 refine Ow.icmpT (pc' := 36) B e42_30 (feq (hk0)).2 ?_
 refine Ow.iloadN (pc' := 37) B e42_36 ?_
 refine Ow.ifF (pc' := 40) B e42_37 (by decide) ?_
 refine Ow.aloadN (pc' := 41) B e42_40 ?_
 refine Ow.iloadN (pc' := 42) B e42_41 ?_
 refine Ow.iconst (pc' := 43) (x := 1) B e42_42 ?_
 refine Ow.isub (pc' := 44) (z := 3) B e42_43 ?_
 refine Ow.caload (pc' := 45) B e42_44 hf0 ⟨by decide, by decide⟩ rfl ?_
 refine Ow.bipush (pc' := 47) (x := 32) B e42_45 ?_
 refine Ow.icmpT (pc' := 53) B e42_47 (feq (hk0)).2 ?_
 refine Ow.iloadN (pc' := 54) B e42_53 ?_
 refine Ow.ifF (pc' := 57) B e42_54 (by decide) ?_
 refine Ow.aloadN (pc' := 58) B e42_57 ?_
 refine Ow.iloadN (pc' := 59) B e42_58 ?_
 refine Ow.iconst (pc' := 60) (x := 1) B e42_59 ?_
 refine Ow.isub (pc' := 61) (z := 3) B e42_60 ?_
 refine Ow.caload (pc' := 62) B e42_61 hf0 ⟨by decide, by decide⟩ rfl ?_
 refine Ow.bipush (pc' := 64) (x := 32) B e42_62 ?_
 refine Ow.icmpT (pc' := 70) B e42_64 (feq (hk0)).2 ?_
 refine Ow.iloadN (pc' := 71) B e42_70 ?_
 exact Ow.retI (S' := []) (t := .int) B e42_71 (⟨rfl, rfl, rfl⟩)
set_option maxRecDepth 65536 in
set_option maxHeartbeats 40000000 in
theorem con_prefixEq_76 (hw : Hw a0 Z) (G : Ow.Glo Z cz sf) (GS : GlS Z) {pa0 : Nat} {pa1 : Nat} {pa2 : Nat} {px0 : Int32} {px1 : Int32} {px2 : Int32} {px3 : Int32} {pk0 : ClassId} {pk1 : ClassId} {h0 : Heap} (O0 : Old Z n0 h0) (hf0 : Ow.Chs Z h0 pa0 pa2 pk0 [px0, px1, px2]) (hf1 : Arv Z h0 pa1 pk1 .char (4 : Int32) [(.int px0), (.int px1), (.int px2), (.int px3)] (.int 0)) (hn1 : n0 ≤ pa1) (hc_px0 : nar .char px0 = px0) (hc_px1 : nar .char px1 = px1) (hc_px2 : nar .char px2 = px2) (hc_px3 : nar .char px3 = px3) :
    Ow.Con l Z EL1 n0 my50 method_5_code 3 (Option.some Jvm.ClassFile.FieldType.boolean) [] ({ frames := 5, cells := 0, slots := 0, locals := 66 } : Room) #[(.ref pa0), (.ref pa1), (.int 3)] [] h0 (fun v h S' => (v = some (.int 1) ∧ h = h0 ∧ S' = [])) := by
 refine Ow.Con.enter (Ls := #[.val (.ref pa0), .val (.ref pa1), .val (.int 3)]) (plainFor_of_name pn5) O0 (hEW hw) (hSA hw) ?_
 intro p e s m below meth c B
 have z0 := Ow.old_le O0
 have lpa0 : (pa0 : Nat) < h0.size := hf0.lt
 have lpa1 : (pa1 : Nat) < h0.size := hf1.lt
 have lpa2 : (pa2 : Nat) < h0.size := hf0.ltt
 refine Ow.iloadN (pc' := 1) B e50_0 ?_
 refine Ow.iconst (pc' := 2) (x := 1) B e50_1 ?_
 refine Ow.icmpF (pc' := 5) B e50_2 (by decide) ?_
 refine Ow.aloadN (pc' := 6) B e50_5 ?_
 refine Ow.iconst (pc' := 7) (x := 0) B e50_6 ?_
 refine Ow.Go.old (fun o1 => ?_)
 refine Ow.callVirtual (pc' := 10) (W := 0) (k' := 0) (n' := 0) (argsL := [(.int 0)]) (rest := []) (K := "java/lang/String") B e50_7 (w176 hw) (w90 hw) (w92 hw) (w92 hw) (w91 hw) (w11 hw) (w93 hw) (hf0).1 (gCha hw G GS (j := 0) (x := px0) o1 hf0 rfl (by simp)) pd24 ?_
 intro vq2 h3 S4 q2 zh3
 obtain ⟨rfl, rfl, rfl⟩ := q2
 refine Ow.Go.nr (S' := []) (st' := [(.int px0)]) ?_
 refine Ow.aloadN (pc' := 11) B e50_10 ?_
 refine Ow.iconst (pc' := 12) (x := 0) B e50_11 ?_
 refine Ow.caload (pc' := 13) B e50_12 hf1 ⟨by decide, by decide⟩ rfl ?_
 refine Ow.icmpF (pc' := 16) B e50_13 (teq (rfl)).2 ?_
 refine Ow.iloadN (pc' := 17) B e50_16 ?_
 refine Ow.iconst (pc' := 18) (x := 2) B e50_17 ?_
 refine Ow.icmpF (pc' := 21) B e50_18 (by decide) ?_
 refine Ow.aloadN (pc' := 22) B e50_21 ?_
 refine Ow.iconst (pc' := 23) (x := 1) B e50_22 ?_
 refine Ow.Go.old (fun o5 => ?_)
 refine Ow.callVirtual (pc' := 26) (W := 0) (k' := 0) (n' := 0) (argsL := [(.int 1)]) (rest := []) (K := "java/lang/String") B e50_23 (w176 hw) (w90 hw) (w92 hw) (w92 hw) (w91 hw) (w11 hw) (w93 hw) (hf0).1 (gCha hw G GS (j := 1) (x := px1) o5 hf0 rfl (by simp)) pd24 ?_
 intro vq6 h7 S8 q6 zh7
 obtain ⟨rfl, rfl, rfl⟩ := q6
 refine Ow.Go.nr (S' := []) (st' := [(.int px1)]) ?_
 refine Ow.aloadN (pc' := 27) B e50_26 ?_
 refine Ow.iconst (pc' := 28) (x := 1) B e50_27 ?_
 refine Ow.caload (pc' := 29) B e50_28 hf1 ⟨by decide, by decide⟩ rfl ?_
 refine Ow.icmpF (pc' := 32) B e50_29 (teq (rfl)).2 ?_
 refine Ow.iloadN (pc' := 33) B e50_32 ?_
 refine Ow.iconst (pc' := 34) (x := 3) B e50_33 ?_
 refine Ow.icmpF (pc' := 37) B e50_34 (by decide) ?_
 refine Ow.aloadN (pc' := 38) B e50_37 ?_
 refine Ow.iconst (pc' := 39) (x := 2) B e50_38 ?_
 refine Ow.Go.old (fun o9 => ?_)
 refine Ow.callVirtual (pc' := 42) (W := 0) (k' := 0) (n' := 0) (argsL := [(.int 2)]) (rest := []) (K := "java/lang/String") B e50_39 (w176 hw) (w90 hw) (w92 hw) (w92 hw) (w91 hw) (w11 hw) (w93 hw) (hf0).1 (gCha hw G GS (j := 2) (x := px2) o9 hf0 rfl (by simp)) pd24 ?_
 intro vq10 h11 S12 q10 zh11
 obtain ⟨rfl, rfl, rfl⟩ := q10
 refine Ow.Go.nr (S' := []) (st' := [(.int px2)]) ?_
 refine Ow.aloadN (pc' := 43) B e50_42 ?_
 refine Ow.iconst (pc' := 44) (x := 2) B e50_43 ?_
 refine Ow.caload (pc' := 45) B e50_44 hf1 ⟨by decide, by decide⟩ rfl ?_
 refine Ow.icmpF (pc' := 48) B e50_45 (teq (rfl)).2 ?_
 refine Ow.iloadN (pc' := 49) B e50_48 ?_
 refine Ow.iconst (pc' := 50) (x := 4) B e50_49 ?_
 refine Ow.icmpT (pc' := 64) B e50_50 (by decide) ?_
 refine Ow.iconst (pc' := 65) (x := 1) B e50_64 ?_
 refine Ow.goto (pc' := 69) B e50_65 ?_
 exact Ow.retI (S' := []) (t := .boolean) B e50_69 (⟨rfl, rfl, rfl⟩)
set_option maxRecDepth 65536 in
set_option maxHeartbeats 40000000 in
theorem lawCon (hw : Hw a0 Z) (G : Ow.Glo Z cz sf) (GS : GlS Z) (x0 x1 x2 x3 x4 x5 : Int32) {h0 : Heap} (O0 : Old Z n0 h0)  :
    Ow.Con l Z EL1 n0 x code maxLocals ret tables_1 room_1 #[(.int x0), (.int x1), (.int x2), (.int x3), (.int x4), (.int x5)] [] h0 (fun v _ _ => v = some (.int 1)) := by
 refine Ow.Con.enter (Ls := #[.val (.int x0), .val (.int x1), .val (.int x2), .val (.int x3), .val (.int x4), .val (.int x5), .unset, .unset, .unset, .unset, .unset, .unset]) (plainFor_of_name pn5) O0 (hEW hw) (hSA hw) ?_
 intro p e s m below meth c B
 have z0 := Ow.old_le O0
 refine Ow.iloadN (pc' := 1) B at_0 ?_
 refine Ow.ldcInt (pc' := 3) B at_1 (w0 hw) ?_
 refine Ow.iand (pc' := 4) (z := (x0 &&& (2147483647 : Int32))) B at_3 ?_
 refine Ow.iconst (pc' := 5) (x := 5) B at_4 ?_
 rcases Ow.maxrem5 x0 with hz5 | hz5 | hz5 | hz5 | hz5
 ·refine Ow.irem (pc' := 6) (z := 0) (hz := hz5) B at_5 ?_
  refine Ow.istore (pc' := 8) (Ls' := #[.val (.int x0), .val (.int x1), .val (.int x2), .val (.int x3), .val (.int x4), .val (.int x5), .val (.int 0), .unset, .unset, .unset, .unset, .unset]) B at_6 ?_
  refine Ow.iconst (pc' := 9) (x := 4) B at_8 ?_
  refine Ow.newArr (pc' := 11) (k' := 1) (n' := 4) (cap := 4) B at_9 (w1 hw) (by decide) (by decide) ?_
  intro h2 a1 ka1 ga1 ba1 Kh2 V0a1
  have zh2 := Kh2.1
  have la1 : (a1 : Nat) < h2.size := V0a1.lt
  have Va1 : Arv Z h2 a1 ka1 .char (4 : Int32) [(.int 0), (.int 0), (.int 0), (.int 0)] (.int 0) := V0a1.pad (pad_rep [] (.int 0) 4)
  refine Ow.astore (pc' := 13) (Ls' := #[.val (.int x0), .val (.int x1), .val (.int x2), .val (.int x3), .val (.int x4), .val (.int x5), .val (.int 0), .val (.ref a1), .unset, .unset, .unset, .unset]) B at_11 ?_
  refine Ow.aload (pc' := 15) B at_13 ?_
  refine Ow.iconst (pc' := 16) (x := 0) B at_15 ?_
  refine Ow.iloadN (pc' := 17) B at_16 ?_
  refine Ow.Go.old (fun o3 => ?_)
  refine Ow.callStatic (pc' := 20) (W := 2) (k' := 1) (n' := 4) (argsL := [(.int x1)]) (rest := [(.int 0), (.ref a1)]) B at_17 (w2 hw) (w3 hw) (w4 hw) (w5 hw) (con_sel_14 hw G GS (px0 := x1) o3) pd24 ?_
  intro vq4 h5 S6 q4 zh5
  obtain ⟨y7, rfl, rfl, c8, c9, c10, rfl⟩ := q4
  refine Ow.Go.nr (S' := [a1]) (st' := [(.int y7), (.int 0), (.ref a1)]) ?_
  refine Ow.castore (pc' := 21) (i := 0) B at_20 Va1 ⟨by decide, by decide⟩ ?_
  intro h11 Kh11 V0h11
  have zh11 := Kh11.1
  have V12 : Arv Z h11 a1 ka1 .char (4 : Int32) [(.int y7), (.int 0), (.int 0), (.int 0)] (.int 0) := (by have e0 := V0h11; rw [show nar .char y7 = y7 from c10] at e0; exact e0)
  refine Ow.aload (pc' := 23) B at_21 ?_
  refine Ow.iconst (pc' := 24) (x := 1) B at_23 ?_
  refine Ow.iloadN (pc' := 25) B at_24 ?_
  refine Ow.Go.old (fun o13 => ?_)
  refine Ow.callStatic (pc' := 28) (W := 2) (k' := 1) (n' := 4) (argsL := [(.int x2)]) (rest := [(.int 1), (.ref a1)]) B at_25 (w2 hw) (w3 hw) (w4 hw) (w5 hw) (con_sel_14 hw G GS (px0 := x2) o13) pd24 ?_
  intro vq14 h15 S16 q14 zh15
  obtain ⟨y17, rfl, rfl, c18, c19, c20, rfl⟩ := q14
  refine Ow.Go.nr (S' := [a1]) (st' := [(.int y17), (.int 1), (.ref a1)]) ?_
  refine Ow.castore (pc' := 29) (i := 1) B at_28 V12 ⟨by decide, by decide⟩ ?_
  intro h21 Kh21 V0h21
  have zh21 := Kh21.1
  have V22 : Arv Z h21 a1 ka1 .char (4 : Int32) [(.int y7), (.int y17), (.int 0), (.int 0)] (.int 0) := (by have e0 := V0h21; rw [show nar .char y17 = y17 from c20] at e0; exact e0)
  refine Ow.aload (pc' := 31) B at_29 ?_
  refine Ow.iconst (pc' := 32) (x := 2) B at_31 ?_
  refine Ow.iloadN (pc' := 33) B at_32 ?_
  refine Ow.Go.old (fun o23 => ?_)
  refine Ow.callStatic (pc' := 36) (W := 2) (k' := 1) (n' := 4) (argsL := [(.int x3)]) (rest := [(.int 2), (.ref a1)]) B at_33 (w2 hw) (w3 hw) (w4 hw) (w5 hw) (con_sel_14 hw G GS (px0 := x3) o23) pd24 ?_
  intro vq24 h25 S26 q24 zh25
  obtain ⟨y27, rfl, rfl, c28, c29, c30, rfl⟩ := q24
  refine Ow.Go.nr (S' := [a1]) (st' := [(.int y27), (.int 2), (.ref a1)]) ?_
  refine Ow.castore (pc' := 37) (i := 2) B at_36 V22 ⟨by decide, by decide⟩ ?_
  intro h31 Kh31 V0h31
  have zh31 := Kh31.1
  have V32 : Arv Z h31 a1 ka1 .char (4 : Int32) [(.int y7), (.int y17), (.int y27), (.int 0)] (.int 0) := (by have e0 := V0h31; rw [show nar .char y27 = y27 from c30] at e0; exact e0)
  refine Ow.aload (pc' := 39) B at_37 ?_
  refine Ow.iconst (pc' := 40) (x := 3) B at_39 ?_
  refine Ow.iload (pc' := 42) B at_40 ?_
  refine Ow.Go.old (fun o33 => ?_)
  refine Ow.callStatic (pc' := 45) (W := 2) (k' := 1) (n' := 4) (argsL := [(.int x4)]) (rest := [(.int 3), (.ref a1)]) B at_42 (w2 hw) (w3 hw) (w4 hw) (w5 hw) (con_sel_14 hw G GS (px0 := x4) o33) pd24 ?_
  intro vq34 h35 S36 q34 zh35
  obtain ⟨y37, rfl, rfl, c38, c39, c40, rfl⟩ := q34
  refine Ow.Go.nr (S' := [a1]) (st' := [(.int y37), (.int 3), (.ref a1)]) ?_
  refine Ow.castore (pc' := 46) (i := 3) B at_45 V32 ⟨by decide, by decide⟩ ?_
  intro h41 Kh41 V0h41
  have zh41 := Kh41.1
  have V42 : Arv Z h41 a1 ka1 .char (4 : Int32) [(.int y7), (.int y17), (.int y27), (.int y37)] (.int 0) := (by have e0 := V0h41; rw [show nar .char y37 = y37 from c40] at e0; exact e0)
  refine Ow.iload (pc' := 48) B at_46 ?_
  refine Ow.aload (pc' := 50) B at_48 ?_
  refine Ow.Go.old (fun o43 => ?_)
  refine Ow.callStatic (pc' := 53) (W := 0) (k' := 7) (n' := 20) (argsL := [(.int 0), (.ref a1)]) (rest := []) B at_50 (w6 hw) (w7 hw) (w4 hw) (w8 hw) (con_str_15 hw G GS (pa0 := a1) o43) pd26 ?_
  intro vq44 h45 S46 q44 zh45
  obtain ⟨r47, r48, k49, rfl, Kh45, br47, f50, rfl⟩ := q44
  have lr48 : (r48 : Nat) < h45.size := f50.ltt
  have lr47 : (r47 : Nat) < h45.size := f50.lt
  refine Ow.Go.nr (S' := [a1]) (st' := [(.ref r47)]) ?_
  refine Ow.astore (pc' := 55) (Ls' := #[.val (.int x0), .val (.int x1), .val (.int x2), .val (.int x3), .val (.int x4), .val (.int x5), .val (.int 0), .val (.ref a1), .val (.ref r47), .unset, .unset, .unset]) B at_53 ?_
  refine Ow.newObj (pc' := 58) (k' := 8) (n' := 22) B at_55 (w30 hw) (w31 hw) (w32 hw) ?_
  intro h52 a51 ga51 ba51 Kh52 Aa51 Da51
  have zh52 := Kh52.1
  have la51 : (a51 : Nat) < h52.size := Aa51.lt
  have f53 : Fld Z h52 a51 "com/example/elsewhere/elsewhere/Field$Subfield" "code" "I" (.int 0) := Da51 (Or.inr (w43 hw)) (ty := .int) (by decide)
  have f54 : Fld Z h52 a51 "com/example/elsewhere/elsewhere/Field$Subfield" "value" "Ljava/lang/String;" .null := Da51 (Or.inr (w45 hw)) (ty := (.object "java/lang/String")) (by decide)
  refine Ow.dup (pc' := 59) B at_58 ?_
  refine Ow.iload (pc' := 61) B at_59 ?_
  refine Ow.aload (pc' := 63) B at_61 ?_
  refine Ow.Go.old (fun o55 => ?_)
  refine Ow.callInit (pc' := 66) (W := 1) (k' := 8) (n' := 22) (argsL := [(.int x5), (.ref r47)]) (rest := [(.ref a51)]) B at_63 (w33 hw) (w34 hw) (w32 hw) (w35 hw) (con_init_17 hw G GS (pa0 := a51) (pa1 := r47) (px0 := x5) o55 Aa51 f53 f54 (by omega)) pd28 ?_
  intro vq56 h57 S58 q56 zh57
  obtain ⟨rfl, Kh57, f59, f60, f61, rfl⟩ := q56
  refine Ow.Go.nr (S' := [a51, a1]) (st' := [(.ref a51)]) ?_
  refine Ow.Go.old (fun o62 => ?_)
  have f63 := f50.keep Kh52 Ow.nin0 Ow.nin0
  have f64 := f63.keep Kh57 (Ow.ninS (by omega) Ow.nin0) (Ow.ninS (by omega) Ow.nin0)
  refine Ow.callVirtual (pc' := 69) (W := 0) (k' := 8) (n' := 22) (argsL := []) (rest := []) (K := "com/example/elsewhere/elsewhere/Field$Subfield") B at_66 (w46 hw) (w47 hw) (w49 hw) (w49 hw) (w48 hw) (w32 hw) (w50 hw) f59 (con_withoutSeparator_20 hw G GS (pa0 := a51) (pa1 := r47) (pa2 := r48) (pk0 := k49) o62 f59 f61 f64 (by omega) (by omega)) pd29 ?_
  intro vq65 h66 S67 q65 zh66
  obtain ⟨rfl, rfl, rfl⟩ := q65
  refine Ow.Go.nr (S' := [a51, a1]) (st' := [(.ref r47)]) ?_
  refine Ow.astore (pc' := 71) (Ls' := #[.val (.int x0), .val (.int x1), .val (.int x2), .val (.int x3), .val (.int x4), .val (.int x5), .val (.int 0), .val (.ref a1), .val (.ref r47), .val (.ref r47), .unset, .unset]) B at_69 ?_
  refine Ow.aload (pc' := 73) B at_71 ?_
  refine Ow.iload (pc' := 75) B at_73 ?_
  refine Ow.Go.old (fun o68 => ?_)
  refine Ow.callStatic (pc' := 78) (W := 0) (k' := 8) (n' := 22) (argsL := [(.ref a1), (.int 0)]) (rest := []) B at_75 (w70 hw) (w71 hw) (w4 hw) (w72 hw) (con_strip_21 hw G GS (pa0 := a1) o68) pd30 ?_
  intro vq69 h70 S71 q69 zh70
  obtain ⟨rfl, rfl, rfl⟩ := q69
  refine Ow.Go.nr (S' := [a51, a1]) (st' := [(.int 0)]) ?_
  refine Ow.istore (pc' := 80) (Ls' := #[.val (.int x0), .val (.int x1), .val (.int x2), .val (.int x3), .val (.int x4), .val (.int x5), .val (.int 0), .val (.ref a1), .val (.ref r47), .val (.ref r47), .val (.int 0), .unset]) B at_78 ?_
  refine Ow.iload (pc' := 82) B at_80 ?_
  refine Ow.ifT (pc' := 160) B at_82 (by decide) ?_
  refine Ow.aload (pc' := 162) B at_160 ?_
  refine Ow.aload (pc' := 164) B at_162 ?_
  refine Ow.Go.old (fun o72 => ?_)
  refine Ow.callVirtual (pc' := 167) (W := 0) (k' := 8) (n' := 22) (argsL := [(.ref r47)]) (rest := []) (K := "java/lang/String") B at_164 (w73 hw) (w74 hw) (w76 hw) (w76 hw) (w75 hw) (w11 hw) (w77 hw) (f64).1 (con_equals_22 hw G GS (pa0 := r47) o72) pd31 ?_
  intro vq73 h74 S75 q73 zh74
  obtain ⟨rfl, rfl, rfl⟩ := q73
  refine Ow.Go.nr (S' := [a51, a1]) (st' := [(.int 1)]) ?_
  exact Ow.retI (S' := []) (t := .boolean) B at_167 (rfl)
 ·refine Ow.irem (pc' := 6) (z := 1) (hz := hz5) B at_5 ?_
  refine Ow.istore (pc' := 8) (Ls' := #[.val (.int x0), .val (.int x1), .val (.int x2), .val (.int x3), .val (.int x4), .val (.int x5), .val (.int 1), .unset, .unset, .unset, .unset, .unset]) B at_6 ?_
  refine Ow.iconst (pc' := 9) (x := 4) B at_8 ?_
  refine Ow.newArr (pc' := 11) (k' := 1) (n' := 4) (cap := 4) B at_9 (w1 hw) (by decide) (by decide) ?_
  intro h77 a76 ka76 ga76 ba76 Kh77 V0a76
  have zh77 := Kh77.1
  have la76 : (a76 : Nat) < h77.size := V0a76.lt
  have Va76 : Arv Z h77 a76 ka76 .char (4 : Int32) [(.int 0), (.int 0), (.int 0), (.int 0)] (.int 0) := V0a76.pad (pad_rep [] (.int 0) 4)
  refine Ow.astore (pc' := 13) (Ls' := #[.val (.int x0), .val (.int x1), .val (.int x2), .val (.int x3), .val (.int x4), .val (.int x5), .val (.int 1), .val (.ref a76), .unset, .unset, .unset, .unset]) B at_11 ?_
  refine Ow.aload (pc' := 15) B at_13 ?_
  refine Ow.iconst (pc' := 16) (x := 0) B at_15 ?_
  refine Ow.iloadN (pc' := 17) B at_16 ?_
  refine Ow.Go.old (fun o78 => ?_)
  refine Ow.callStatic (pc' := 20) (W := 2) (k' := 1) (n' := 4) (argsL := [(.int x1)]) (rest := [(.int 0), (.ref a76)]) B at_17 (w2 hw) (w3 hw) (w4 hw) (w5 hw) (con_sel_14 hw G GS (px0 := x1) o78) pd24 ?_
  intro vq79 h80 S81 q79 zh80
  obtain ⟨y82, rfl, rfl, c83, c84, c85, rfl⟩ := q79
  refine Ow.Go.nr (S' := [a76]) (st' := [(.int y82), (.int 0), (.ref a76)]) ?_
  refine Ow.castore (pc' := 21) (i := 0) B at_20 Va76 ⟨by decide, by decide⟩ ?_
  intro h86 Kh86 V0h86
  have zh86 := Kh86.1
  have V87 : Arv Z h86 a76 ka76 .char (4 : Int32) [(.int y82), (.int 0), (.int 0), (.int 0)] (.int 0) := (by have e0 := V0h86; rw [show nar .char y82 = y82 from c85] at e0; exact e0)
  refine Ow.aload (pc' := 23) B at_21 ?_
  refine Ow.iconst (pc' := 24) (x := 1) B at_23 ?_
  refine Ow.iloadN (pc' := 25) B at_24 ?_
  refine Ow.Go.old (fun o88 => ?_)
  refine Ow.callStatic (pc' := 28) (W := 2) (k' := 1) (n' := 4) (argsL := [(.int x2)]) (rest := [(.int 1), (.ref a76)]) B at_25 (w2 hw) (w3 hw) (w4 hw) (w5 hw) (con_sel_14 hw G GS (px0 := x2) o88) pd24 ?_
  intro vq89 h90 S91 q89 zh90
  obtain ⟨y92, rfl, rfl, c93, c94, c95, rfl⟩ := q89
  refine Ow.Go.nr (S' := [a76]) (st' := [(.int y92), (.int 1), (.ref a76)]) ?_
  refine Ow.castore (pc' := 29) (i := 1) B at_28 V87 ⟨by decide, by decide⟩ ?_
  intro h96 Kh96 V0h96
  have zh96 := Kh96.1
  have V97 : Arv Z h96 a76 ka76 .char (4 : Int32) [(.int y82), (.int y92), (.int 0), (.int 0)] (.int 0) := (by have e0 := V0h96; rw [show nar .char y92 = y92 from c95] at e0; exact e0)
  refine Ow.aload (pc' := 31) B at_29 ?_
  refine Ow.iconst (pc' := 32) (x := 2) B at_31 ?_
  refine Ow.iloadN (pc' := 33) B at_32 ?_
  refine Ow.Go.old (fun o98 => ?_)
  refine Ow.callStatic (pc' := 36) (W := 2) (k' := 1) (n' := 4) (argsL := [(.int x3)]) (rest := [(.int 2), (.ref a76)]) B at_33 (w2 hw) (w3 hw) (w4 hw) (w5 hw) (con_sel_14 hw G GS (px0 := x3) o98) pd24 ?_
  intro vq99 h100 S101 q99 zh100
  obtain ⟨y102, rfl, rfl, c103, c104, c105, rfl⟩ := q99
  refine Ow.Go.nr (S' := [a76]) (st' := [(.int y102), (.int 2), (.ref a76)]) ?_
  refine Ow.castore (pc' := 37) (i := 2) B at_36 V97 ⟨by decide, by decide⟩ ?_
  intro h106 Kh106 V0h106
  have zh106 := Kh106.1
  have V107 : Arv Z h106 a76 ka76 .char (4 : Int32) [(.int y82), (.int y92), (.int y102), (.int 0)] (.int 0) := (by have e0 := V0h106; rw [show nar .char y102 = y102 from c105] at e0; exact e0)
  refine Ow.aload (pc' := 39) B at_37 ?_
  refine Ow.iconst (pc' := 40) (x := 3) B at_39 ?_
  refine Ow.iload (pc' := 42) B at_40 ?_
  refine Ow.Go.old (fun o108 => ?_)
  refine Ow.callStatic (pc' := 45) (W := 2) (k' := 1) (n' := 4) (argsL := [(.int x4)]) (rest := [(.int 3), (.ref a76)]) B at_42 (w2 hw) (w3 hw) (w4 hw) (w5 hw) (con_sel_14 hw G GS (px0 := x4) o108) pd24 ?_
  intro vq109 h110 S111 q109 zh110
  obtain ⟨y112, rfl, rfl, c113, c114, c115, rfl⟩ := q109
  refine Ow.Go.nr (S' := [a76]) (st' := [(.int y112), (.int 3), (.ref a76)]) ?_
  refine Ow.castore (pc' := 46) (i := 3) B at_45 V107 ⟨by decide, by decide⟩ ?_
  intro h116 Kh116 V0h116
  have zh116 := Kh116.1
  have V117 : Arv Z h116 a76 ka76 .char (4 : Int32) [(.int y82), (.int y92), (.int y102), (.int y112)] (.int 0) := (by have e0 := V0h116; rw [show nar .char y112 = y112 from c115] at e0; exact e0)
  refine Ow.iload (pc' := 48) B at_46 ?_
  refine Ow.aload (pc' := 50) B at_48 ?_
  refine Ow.Go.old (fun o118 => ?_)
  refine Ow.callStatic (pc' := 53) (W := 0) (k' := 7) (n' := 21) (argsL := [(.int 1), (.ref a76)]) (rest := []) B at_50 (w6 hw) (w7 hw) (w4 hw) (w8 hw) (con_str_23 hw G GS (pa0 := a76) (px0 := y82) (px1 := y92) (px2 := y102) (px3 := y112) (pk0 := ka76) o118 V117 (by omega) (c83) (c84) c85 c95 c105 c115) pd26 ?_
  intro vq119 h120 S121 q119 zh120
  obtain ⟨r122, r123, k124, rfl, Kh120, br122, f125, rfl⟩ := q119
  have lr123 : (r123 : Nat) < h120.size := f125.ltt
  have lr122 : (r122 : Nat) < h120.size := f125.lt
  refine Ow.Go.nr (S' := [a76]) (st' := [(.ref r122)]) ?_
  refine Ow.astore (pc' := 55) (Ls' := #[.val (.int x0), .val (.int x1), .val (.int x2), .val (.int x3), .val (.int x4), .val (.int x5), .val (.int 1), .val (.ref a76), .val (.ref r122), .unset, .unset, .unset]) B at_53 ?_
  refine Ow.newObj (pc' := 58) (k' := 8) (n' := 23) B at_55 (w30 hw) (w31 hw) (w32 hw) ?_
  intro h127 a126 ga126 ba126 Kh127 Aa126 Da126
  have zh127 := Kh127.1
  have la126 : (a126 : Nat) < h127.size := Aa126.lt
  have f128 : Fld Z h127 a126 "com/example/elsewhere/elsewhere/Field$Subfield" "code" "I" (.int 0) := Da126 (Or.inr (w43 hw)) (ty := .int) (by decide)
  have f129 : Fld Z h127 a126 "com/example/elsewhere/elsewhere/Field$Subfield" "value" "Ljava/lang/String;" .null := Da126 (Or.inr (w45 hw)) (ty := (.object "java/lang/String")) (by decide)
  refine Ow.dup (pc' := 59) B at_58 ?_
  refine Ow.iload (pc' := 61) B at_59 ?_
  refine Ow.aload (pc' := 63) B at_61 ?_
  refine Ow.Go.old (fun o130 => ?_)
  refine Ow.callInit (pc' := 66) (W := 1) (k' := 8) (n' := 23) (argsL := [(.int x5), (.ref r122)]) (rest := [(.ref a126)]) B at_63 (w33 hw) (w34 hw) (w32 hw) (w35 hw) (con_init_17 hw G GS (pa0 := a126) (pa1 := r122) (px0 := x5) o130 Aa126 f128 f129 (by omega)) pd28 ?_
  intro vq131 h132 S133 q131 zh132
  obtain ⟨rfl, Kh132, f134, f135, f136, rfl⟩ := q131
  refine Ow.Go.nr (S' := [a126, a76]) (st' := [(.ref a126)]) ?_
  refine Ow.Go.old (fun o137 => ?_)
  have f138 := f125.keep Kh127 Ow.nin0 Ow.nin0
  have f139 := f138.keep Kh132 (Ow.ninS (by omega) Ow.nin0) (Ow.ninS (by omega) Ow.nin0)
  refine Ow.callVirtual (pc' := 69) (W := 0) (k' := 13) (n' := 55) (argsL := []) (rest := []) (K := "com/example/elsewhere/elsewhere/Field$Subfield") B at_66 (w46 hw) (w47 hw) (w49 hw) (w49 hw) (w48 hw) (w32 hw) (w50 hw) f134 (con_withoutSeparator_34 hw G GS (pa0 := a126) (pa1 := r122) (pa2 := r123) (px0 := y82) (pk0 := k124) o137 f134 f136 f139 (by omega) (by omega) (c83) c85) pd29 ?_
  intro vq140 h141 S142 q140 zh141
  rcases q140 with q140 | q140 | q140
  ·obtain ⟨rfl, rfl, c143, rfl⟩ := q140
   refine Ow.Go.nr (S' := [a126, a76]) (st' := [(.ref r122)]) ?_
   refine Ow.astore (pc' := 71) (Ls' := #[.val (.int x0), .val (.int x1), .val (.int x2), .val (.int x3), .val (.int x4), .val (.int x5), .val (.int 1), .val (.ref a76), .val (.ref r122), .val (.ref r122), .unset, .unset]) B at_69 ?_
   refine Ow.aload (pc' := 73) B at_71 ?_
   refine Ow.iload (pc' := 75) B at_73 ?_
   refine Ow.Go.old (fun o144 => ?_)
   have f145 := V117.keep Kh120 Ow.nin0
   have f146 := f145.keep Kh127 Ow.nin0
   have f147 := f146.keep Kh132 (Ow.ninS (by omega) Ow.nin0)
   refine Ow.callStatic (pc' := 78) (W := 0) (k' := 13) (n' := 55) (argsL := [(.ref a76), (.int 1)]) (rest := []) B at_75 (w70 hw) (w71 hw) (w4 hw) (w72 hw) (con_strip_35 hw G GS (pa0 := a76) (px0 := y82) (px1 := y92) (px2 := y102) (px3 := y112) (pk0 := ka76) o144 f147 (by omega) (c143) c85 c95 c105 c115) pd30 ?_
   intro vq148 h149 S150 q148 zh149
   obtain ⟨rfl, rfl, rfl⟩ := q148
   refine Ow.Go.nr (S' := [a126, a76]) (st' := [(.int 0)]) ?_
   refine Ow.istore (pc' := 80) (Ls' := #[.val (.int x0), .val (.int x1), .val (.int x2), .val (.int x3), .val (.int x4), .val (.int x5), .val (.int 1), .val (.ref a76), .val (.ref r122), .val (.ref r122), .val (.int 0), .unset]) B at_78 ?_
   refine Ow.iload (pc' := 82) B at_80 ?_
   refine Ow.ifT (pc' := 160) B at_82 (by decide) ?_
   refine Ow.aload (pc' := 162) B at_160 ?_
   refine Ow.aload (pc' := 164) B at_162 ?_
   refine Ow.Go.old (fun o151 => ?_)
   refine Ow.callVirtual (pc' := 167) (W := 0) (k' := 13) (n' := 55) (argsL := [(.ref r122)]) (rest := []) (K := "java/lang/String") B at_164 (w73 hw) (w74 hw) (w76 hw) (w76 hw) (w75 hw) (w11 hw) (w77 hw) (f139).1 (con_equals_22 hw G GS (pa0 := r122) o151) pd31 ?_
   intro vq152 h153 S154 q152 zh153
   obtain ⟨rfl, rfl, rfl⟩ := q152
   refine Ow.Go.nr (S' := [a126, a76]) (st' := [(.int 1)]) ?_
   exact Ow.retI (S' := []) (t := .boolean) B at_167 (rfl)
  ·obtain ⟨rfl, Kh141, c155, c156, rfl⟩ := q140
   refine Ow.Go.nr (S' := [a126, a76]) (st' := [(.ref r122)]) ?_
   refine Ow.astore (pc' := 71) (Ls' := #[.val (.int x0), .val (.int x1), .val (.int x2), .val (.int x3), .val (.int x4), .val (.int x5), .val (.int 1), .val (.ref a76), .val (.ref r122), .val (.ref r122), .unset, .unset]) B at_69 ?_
   refine Ow.aload (pc' := 73) B at_71 ?_
   refine Ow.iload (pc' := 75) B at_73 ?_
   refine Ow.Go.old (fun o157 => ?_)
   have f158 := V117.keep Kh120 Ow.nin0
   have f159 := f158.keep Kh127 Ow.nin0
   have f160 := f159.keep Kh132 (Ow.ninS (by omega) Ow.nin0)
   have f161 := f160.keep Kh141 Ow.nin0
   refine Ow.callStatic (pc' := 78) (W := 0) (k' := 13) (n' := 55) (argsL := [(.ref a76), (.int 1)]) (rest := []) B at_75 (w70 hw) (w71 hw) (w4 hw) (w72 hw) (con_strip_36 hw G GS (pa0 := a76) (px0 := y82) (px1 := y92) (px2 := y102) (px3 := y112) (pk0 := ka76) o157 f161 (by omega) (c155) c85 c95 c105 c115) pd30 ?_
   intro vq162 h163 S164 q162 zh163
   obtain ⟨rfl, rfl, rfl⟩ := q162
   refine Ow.Go.nr (S' := [a126, a76]) (st' := [(.int 1)]) ?_
   refine Ow.istore (pc' := 80) (Ls' := #[.val (.int x0), .val (.int x1), .val (.int x2), .val (.int x3), .val (.int x4), .val (.int x5), .val (.int 1), .val (.ref a76), .val (.ref r122), .val (.ref r122), .val (.int 1), .unset]) B at_78 ?_
   refine Ow.iload (pc' := 82) B at_80 ?_
   refine Ow.ifF (pc' := 85) B at_82 (by decide) ?_
   refine Ow.aload (pc' := 87) B at_85 ?_
   refine Ow.iload (pc' := 89) B at_87 ?_
   refine Ow.iconst (pc' := 90) (x := 1) B at_89 ?_
   refine Ow.isub (pc' := 91) (z := 0) B at_90 ?_
   refine Ow.caload (pc' := 92) B at_91 f161 ⟨by decide, by decide⟩ rfl ?_
   refine Ow.bipush (pc' := 94) (x := 59) B at_92 ?_
   refine Ow.icmpF (pc' := 97) B at_94 (feq (fun q => c156 (Or.inl q))).1 ?_
   refine Ow.aload (pc' := 99) B at_97 ?_
   refine Ow.iload (pc' := 101) B at_99 ?_
   refine Ow.iconst (pc' := 102) (x := 1) B at_101 ?_
   refine Ow.isub (pc' := 103) (z := 0) B at_102 ?_
   refine Ow.caload (pc' := 104) B at_103 f161 ⟨by decide, by decide⟩ rfl ?_
   refine Ow.bipush (pc' := 106) (x := 44) B at_104 ?_
   refine Ow.icmpF (pc' := 109) B at_106 (feq (fun q => c156 (Or.inr (Or.inl q)))).1 ?_
   refine Ow.aload (pc' := 111) B at_109 ?_
   refine Ow.iload (pc' := 113) B at_111 ?_
   refine Ow.iconst (pc' := 114) (x := 1) B at_113 ?_
   refine Ow.isub (pc' := 115) (z := 0) B at_114 ?_
   refine Ow.caload (pc' := 116) B at_115 f161 ⟨by decide, by decide⟩ rfl ?_
   refine Ow.bipush (pc' := 118) (x := 58) B at_116 ?_
   refine Ow.icmpT (pc' := 160) B at_118 (feq (fun q => c156 (Or.inr (Or.inr q)))).2 ?_
   refine Ow.aload (pc' := 162) B at_160 ?_
   refine Ow.aload (pc' := 164) B at_162 ?_
   refine Ow.Go.old (fun o165 => ?_)
   have f166 := f139.keep Kh141 Ow.nin0 Ow.nin0
   refine Ow.callVirtual (pc' := 167) (W := 0) (k' := 13) (n' := 55) (argsL := [(.ref r122)]) (rest := []) (K := "java/lang/String") B at_164 (w73 hw) (w74 hw) (w76 hw) (w76 hw) (w75 hw) (w11 hw) (w77 hw) (f166).1 (con_equals_22 hw G GS (pa0 := r122) o165) pd31 ?_
   intro vq167 h168 S169 q167 zh168
   obtain ⟨rfl, rfl, rfl⟩ := q167
   refine Ow.Go.nr (S' := [a126, a76]) (st' := [(.int 1)]) ?_
   exact Ow.retI (S' := []) (t := .boolean) B at_167 (rfl)
  ·obtain ⟨r170, r171, k172, rfl, Kh141, c173, c174, f175, rfl⟩ := q140
   have lr171 : (r171 : Nat) < h141.size := f175.ltt
   have lr170 : (r170 : Nat) < h141.size := f175.lt
   refine Ow.Go.nr (S' := [a126, a76]) (st' := [(.ref r170)]) ?_
   refine Ow.astore (pc' := 71) (Ls' := #[.val (.int x0), .val (.int x1), .val (.int x2), .val (.int x3), .val (.int x4), .val (.int x5), .val (.int 1), .val (.ref a76), .val (.ref r122), .val (.ref r170), .unset, .unset]) B at_69 ?_
   refine Ow.aload (pc' := 73) B at_71 ?_
   refine Ow.iload (pc' := 75) B at_73 ?_
   refine Ow.Go.old (fun o176 => ?_)
   have f177 := V117.keep Kh120 Ow.nin0
   have f178 := f177.keep Kh127 Ow.nin0
   have f179 := f178.keep Kh132 (Ow.ninS (by omega) Ow.nin0)
   have f180 := f179.keep Kh141 Ow.nin0
   refine Ow.callStatic (pc' := 78) (W := 0) (k' := 13) (n' := 55) (argsL := [(.ref a76), (.int 1)]) (rest := []) B at_75 (w70 hw) (w71 hw) (w4 hw) (w72 hw) (con_strip_36 hw G GS (pa0 := a76) (px0 := y82) (px1 := y92) (px2 := y102) (px3 := y112) (pk0 := ka76) o176 f180 (by omega) (c173) c85 c95 c105 c115) pd30 ?_
   intro vq181 h182 S183 q181 zh182
   obtain ⟨rfl, rfl, rfl⟩ := q181
   refine Ow.Go.nr (S' := [a126, a76]) (st' := [(.int 1)]) ?_
   refine Ow.istore (pc' := 80) (Ls' := #[.val (.int x0), .val (.int x1), .val (.int x2), .val (.int x3), .val (.int x4), .val (.int x5), .val (.int 1), .val (.ref a76), .val (.ref r122), .val (.ref r170), .val (.int 1), .unset]) B at_78 ?_
   refine Ow.iload (pc' := 82) B at_80 ?_
   refine Ow.ifF (pc' := 85) B at_82 (by decide) ?_
   refine Ow.Go.join (α := Unit) (pc1 := 121) (fun _ => #[.val (.int x0), .val (.int x1), .val (.int x2), .val (.int x3), .val (.int x4), .val (.int x5), .val (.int 1), .val (.ref a76), .val (.ref r122), .val (.ref r170), .val (.int 1), .unset]) (fun _ => []) ?_ ?_
   ·intro _
    refine Ow.aload (pc' := 123) B at_121 ?_
    refine Ow.iload (pc' := 125) B at_123 ?_
    refine Ow.iconst (pc' := 126) (x := 1) B at_125 ?_
    refine Ow.isub (pc' := 127) (z := 0) B at_126 ?_
    refine Ow.Go.old (fun o184 => ?_)
    refine Ow.callStatic (pc' := 130) (W := 0) (k' := 13) (n' := 55) (argsL := [(.ref a76), (.int 0)]) (rest := []) B at_127 (w70 hw) (w71 hw) (w4 hw) (w72 hw) (con_strip_21 hw G GS (pa0 := a76) o184) pd30 ?_
    intro vq185 h186 S187 q185 zh186
    obtain ⟨rfl, rfl, rfl⟩ := q185
    refine Ow.Go.nr (S' := [a126, a76]) (st' := [(.int 0)]) ?_
    refine Ow.istore (pc' := 132) (Ls' := #[.val (.int x0), .val (.int x1), .val (.int x2), .val (.int x3), .val (.int x4), .val (.int x5), .val (.int 1), .val (.ref a76), .val (.ref r122), .val (.ref r170), .val (.int 1), .val (.int 0)]) B at_130 ?_
    refine Ow.aload (pc' := 134) B at_132 ?_
    refine Ow.Go.old (fun o188 => ?_)
    refine Ow.callVirtual (pc' := 137) (W := 0) (k' := 13) (n' := 55) (argsL := []) (rest := []) (K := "java/lang/String") B at_134 (w172 hw) (w52 hw) (w54 hw) (w54 hw) (w53 hw) (w11 hw) (w55 hw) (f175).1 (gLen hw G GS o188 f175 (by simp)) pd21 ?_
    intro vq189 h190 S191 q189 zh190
    obtain ⟨rfl, rfl, rfl⟩ := q189
    refine Ow.Go.nr (S' := [a126, a76]) (st' := [(.int 0)]) ?_
    refine Ow.iload (pc' := 139) B at_137 ?_
    refine Ow.icmpF (pc' := 142) B at_139 (by decide) ?_
    refine Ow.aload (pc' := 144) B at_142 ?_
    refine Ow.aload (pc' := 146) B at_144 ?_
    refine Ow.iload (pc' := 148) B at_146 ?_
    refine Ow.Go.old (fun o192 => ?_)
    refine Ow.callStatic (pc' := 151) (W := 0) (k' := 13) (n' := 55) (argsL := [(.ref r170), (.ref a76), (.int 0)]) (rest := []) B at_148 (w173 hw) (w174 hw) (w4 hw) (w175 hw) (con_prefixEq_37 hw G GS (pa0 := r170) (pa1 := a76) o192) pd35 ?_
    intro vq193 h194 S195 q193 zh194
    obtain ⟨rfl, rfl, rfl⟩ := q193
    refine Ow.Go.nr (S' := [a126, a76]) (st' := [(.int 1)]) ?_
    refine Ow.ifF (pc' := 154) B at_151 (by decide) ?_
    refine Ow.iconst (pc' := 155) (x := 1) B at_154 ?_
    refine Ow.goto (pc' := 159) B at_155 ?_
    exact Ow.retI (S' := []) (t := .boolean) B at_159 (rfl)
   ·intro J196
    rcases c174 with c197 | c197 | c197
    ·refine Ow.aload (pc' := 87) B at_85 ?_
     refine Ow.iload (pc' := 89) B at_87 ?_
     refine Ow.iconst (pc' := 90) (x := 1) B at_89 ?_
     refine Ow.isub (pc' := 91) (z := 0) B at_90 ?_
     refine Ow.caload (pc' := 92) B at_91 f180 ⟨by decide, by decide⟩ rfl ?_
     refine Ow.bipush (pc' := 94) (x := 59) B at_92 ?_
     refine Ow.icmpT (pc' := 121) B at_94 (teq (c197)).1 ?_
     exact J196 ()
    ·refine Ow.aload (pc' := 87) B at_85 ?_
     refine Ow.iload (pc' := 89) B at_87 ?_
     refine Ow.iconst (pc' := 90) (x := 1) B at_89 ?_
     refine Ow.isub (pc' := 91) (z := 0) B at_90 ?_
     refine Ow.caload (pc' := 92) B at_91 f180 ⟨by decide, by decide⟩ rfl ?_
     refine Ow.bipush (pc' := 94) (x := 59) B at_92 ?_
     refine Ow.icmpF (pc' := 97) B at_94 (feq (by rw [c197]; decide)).1 ?_
     refine Ow.aload (pc' := 99) B at_97 ?_
     refine Ow.iload (pc' := 101) B at_99 ?_
     refine Ow.iconst (pc' := 102) (x := 1) B at_101 ?_
     refine Ow.isub (pc' := 103) (z := 0) B at_102 ?_
     refine Ow.caload (pc' := 104) B at_103 f180 ⟨by decide, by decide⟩ rfl ?_
     refine Ow.bipush (pc' := 106) (x := 44) B at_104 ?_
     refine Ow.icmpT (pc' := 121) B at_106 (teq (c197)).1 ?_
     exact J196 ()
    ·refine Ow.aload (pc' := 87) B at_85 ?_
     refine Ow.iload (pc' := 89) B at_87 ?_
     refine Ow.iconst (pc' := 90) (x := 1) B at_89 ?_
     refine Ow.isub (pc' := 91) (z := 0) B at_90 ?_
     refine Ow.caload (pc' := 92) B at_91 f180 ⟨by decide, by decide⟩ rfl ?_
     refine Ow.bipush (pc' := 94) (x := 59) B at_92 ?_
     refine Ow.icmpF (pc' := 97) B at_94 (feq (by rw [c197]; decide)).1 ?_
     refine Ow.aload (pc' := 99) B at_97 ?_
     refine Ow.iload (pc' := 101) B at_99 ?_
     refine Ow.iconst (pc' := 102) (x := 1) B at_101 ?_
     refine Ow.isub (pc' := 103) (z := 0) B at_102 ?_
     refine Ow.caload (pc' := 104) B at_103 f180 ⟨by decide, by decide⟩ rfl ?_
     refine Ow.bipush (pc' := 106) (x := 44) B at_104 ?_
     refine Ow.icmpF (pc' := 109) B at_106 (feq (by rw [c197]; decide)).1 ?_
     refine Ow.aload (pc' := 111) B at_109 ?_
     refine Ow.iload (pc' := 113) B at_111 ?_
     refine Ow.iconst (pc' := 114) (x := 1) B at_113 ?_
     refine Ow.isub (pc' := 115) (z := 0) B at_114 ?_
     refine Ow.caload (pc' := 116) B at_115 f180 ⟨by decide, by decide⟩ rfl ?_
     refine Ow.bipush (pc' := 118) (x := 58) B at_116 ?_
     refine Ow.icmpF (pc' := 121) B at_118 (teq (c197)).2 ?_
     exact J196 ()
 ·refine Ow.irem (pc' := 6) (z := 2) (hz := hz5) B at_5 ?_
  refine Ow.istore (pc' := 8) (Ls' := #[.val (.int x0), .val (.int x1), .val (.int x2), .val (.int x3), .val (.int x4), .val (.int x5), .val (.int 2), .unset, .unset, .unset, .unset, .unset]) B at_6 ?_
  refine Ow.iconst (pc' := 9) (x := 4) B at_8 ?_
  refine Ow.newArr (pc' := 11) (k' := 1) (n' := 4) (cap := 4) B at_9 (w1 hw) (by decide) (by decide) ?_
  intro h199 a198 ka198 ga198 ba198 Kh199 V0a198
  have zh199 := Kh199.1
  have la198 : (a198 : Nat) < h199.size := V0a198.lt
  have Va198 : Arv Z h199 a198 ka198 .char (4 : Int32) [(.int 0), (.int 0), (.int 0), (.int 0)] (.int 0) := V0a198.pad (pad_rep [] (.int 0) 4)
  refine Ow.astore (pc' := 13) (Ls' := #[.val (.int x0), .val (.int x1), .val (.int x2), .val (.int x3), .val (.int x4), .val (.int x5), .val (.int 2), .val (.ref a198), .unset, .unset, .unset, .unset]) B at_11 ?_
  refine Ow.aload (pc' := 15) B at_13 ?_
  refine Ow.iconst (pc' := 16) (x := 0) B at_15 ?_
  refine Ow.iloadN (pc' := 17) B at_16 ?_
  refine Ow.Go.old (fun o200 => ?_)
  refine Ow.callStatic (pc' := 20) (W := 2) (k' := 1) (n' := 4) (argsL := [(.int x1)]) (rest := [(.int 0), (.ref a198)]) B at_17 (w2 hw) (w3 hw) (w4 hw) (w5 hw) (con_sel_14 hw G GS (px0 := x1) o200) pd24 ?_
  intro vq201 h202 S203 q201 zh202
  obtain ⟨y204, rfl, rfl, c205, c206, c207, rfl⟩ := q201
  refine Ow.Go.nr (S' := [a198]) (st' := [(.int y204), (.int 0), (.ref a198)]) ?_
  refine Ow.castore (pc' := 21) (i := 0) B at_20 Va198 ⟨by decide, by decide⟩ ?_
  intro h208 Kh208 V0h208
  have zh208 := Kh208.1
  have V209 : Arv Z h208 a198 ka198 .char (4 : Int32) [(.int y204), (.int 0), (.int 0), (.int 0)] (.int 0) := (by have e0 := V0h208; rw [show nar .char y204 = y204 from c207] at e0; exact e0)
  refine Ow.aload (pc' := 23) B at_21 ?_
  refine Ow.iconst (pc' := 24) (x := 1) B at_23 ?_
  refine Ow.iloadN (pc' := 25) B at_24 ?_
  refine Ow.Go.old (fun o210 => ?_)
  refine Ow.callStatic (pc' := 28) (W := 2) (k' := 1) (n' := 4) (argsL := [(.int x2)]) (rest := [(.int 1), (.ref a198)]) B at_25 (w2 hw) (w3 hw) (w4 hw) (w5 hw) (con_sel_14 hw G GS (px0 := x2) o210) pd24 ?_
  intro vq211 h212 S213 q211 zh212
  obtain ⟨y214, rfl, rfl, c215, c216, c217, rfl⟩ := q211
  refine Ow.Go.nr (S' := [a198]) (st' := [(.int y214), (.int 1), (.ref a198)]) ?_
  refine Ow.castore (pc' := 29) (i := 1) B at_28 V209 ⟨by decide, by decide⟩ ?_
  intro h218 Kh218 V0h218
  have zh218 := Kh218.1
  have V219 : Arv Z h218 a198 ka198 .char (4 : Int32) [(.int y204), (.int y214), (.int 0), (.int 0)] (.int 0) := (by have e0 := V0h218; rw [show nar .char y214 = y214 from c217] at e0; exact e0)
  refine Ow.aload (pc' := 31) B at_29 ?_
  refine Ow.iconst (pc' := 32) (x := 2) B at_31 ?_
  refine Ow.iloadN (pc' := 33) B at_32 ?_
  refine Ow.Go.old (fun o220 => ?_)
  refine Ow.callStatic (pc' := 36) (W := 2) (k' := 1) (n' := 4) (argsL := [(.int x3)]) (rest := [(.int 2), (.ref a198)]) B at_33 (w2 hw) (w3 hw) (w4 hw) (w5 hw) (con_sel_14 hw G GS (px0 := x3) o220) pd24 ?_
  intro vq221 h222 S223 q221 zh222
  obtain ⟨y224, rfl, rfl, c225, c226, c227, rfl⟩ := q221
  refine Ow.Go.nr (S' := [a198]) (st' := [(.int y224), (.int 2), (.ref a198)]) ?_
  refine Ow.castore (pc' := 37) (i := 2) B at_36 V219 ⟨by decide, by decide⟩ ?_
  intro h228 Kh228 V0h228
  have zh228 := Kh228.1
  have V229 : Arv Z h228 a198 ka198 .char (4 : Int32) [(.int y204), (.int y214), (.int y224), (.int 0)] (.int 0) := (by have e0 := V0h228; rw [show nar .char y224 = y224 from c227] at e0; exact e0)
  refine Ow.aload (pc' := 39) B at_37 ?_
  refine Ow.iconst (pc' := 40) (x := 3) B at_39 ?_
  refine Ow.iload (pc' := 42) B at_40 ?_
  refine Ow.Go.old (fun o230 => ?_)
  refine Ow.callStatic (pc' := 45) (W := 2) (k' := 1) (n' := 4) (argsL := [(.int x4)]) (rest := [(.int 3), (.ref a198)]) B at_42 (w2 hw) (w3 hw) (w4 hw) (w5 hw) (con_sel_14 hw G GS (px0 := x4) o230) pd24 ?_
  intro vq231 h232 S233 q231 zh232
  obtain ⟨y234, rfl, rfl, c235, c236, c237, rfl⟩ := q231
  refine Ow.Go.nr (S' := [a198]) (st' := [(.int y234), (.int 3), (.ref a198)]) ?_
  refine Ow.castore (pc' := 46) (i := 3) B at_45 V229 ⟨by decide, by decide⟩ ?_
  intro h238 Kh238 V0h238
  have zh238 := Kh238.1
  have V239 : Arv Z h238 a198 ka198 .char (4 : Int32) [(.int y204), (.int y214), (.int y224), (.int y234)] (.int 0) := (by have e0 := V0h238; rw [show nar .char y234 = y234 from c237] at e0; exact e0)
  refine Ow.iload (pc' := 48) B at_46 ?_
  refine Ow.aload (pc' := 50) B at_48 ?_
  refine Ow.Go.old (fun o240 => ?_)
  refine Ow.callStatic (pc' := 53) (W := 0) (k' := 7) (n' := 22) (argsL := [(.int 2), (.ref a198)]) (rest := []) B at_50 (w6 hw) (w7 hw) (w4 hw) (w8 hw) (con_str_38 hw G GS (pa0 := a198) (px0 := y204) (px1 := y214) (px2 := y224) (px3 := y234) (pk0 := ka198) o240 V239 (by omega) (c205) (c206) (c215) (c216) c207 c217 c227 c237) pd26 ?_
  intro vq241 h242 S243 q241 zh242
  obtain ⟨r244, r245, k246, rfl, Kh242, br244, f247, rfl⟩ := q241
  have lr245 : (r245 : Nat) < h242.size := f247.ltt
  have lr244 : (r244 : Nat) < h242.size := f247.lt
  refine Ow.Go.nr (S' := [a198]) (st' := [(.ref r244)]) ?_
  refine Ow.astore (pc' := 55) (Ls' := #[.val (.int x0), .val (.int x1), .val (.int x2), .val (.int x3), .val (.int x4), .val (.int x5), .val (.int 2), .val (.ref a198), .val (.ref r244), .unset, .unset, .unset]) B at_53 ?_
  refine Ow.newObj (pc' := 58) (k' := 8) (n' := 24) B at_55 (w30 hw) (w31 hw) (w32 hw) ?_
  intro h249 a248 ga248 ba248 Kh249 Aa248 Da248
  have zh249 := Kh249.1
  have la248 : (a248 : Nat) < h249.size := Aa248.lt
  have f250 : Fld Z h249 a248 "com/example/elsewhere/elsewhere/Field$Subfield" "code" "I" (.int 0) := Da248 (Or.inr (w43 hw)) (ty := .int) (by decide)
  have f251 : Fld Z h249 a248 "com/example/elsewhere/elsewhere/Field$Subfield" "value" "Ljava/lang/String;" .null := Da248 (Or.inr (w45 hw)) (ty := (.object "java/lang/String")) (by decide)
  refine Ow.dup (pc' := 59) B at_58 ?_
  refine Ow.iload (pc' := 61) B at_59 ?_
  refine Ow.aload (pc' := 63) B at_61 ?_
  refine Ow.Go.old (fun o252 => ?_)
  refine Ow.callInit (pc' := 66) (W := 1) (k' := 8) (n' := 24) (argsL := [(.int x5), (.ref r244)]) (rest := [(.ref a248)]) B at_63 (w33 hw) (w34 hw) (w32 hw) (w35 hw) (con_init_17 hw G GS (pa0 := a248) (pa1 := r244) (px0 := x5) o252 Aa248 f250 f251 (by omega)) pd28 ?_
  intro vq253 h254 S255 q253 zh254
  obtain ⟨rfl, Kh254, f256, f257, f258, rfl⟩ := q253
  refine Ow.Go.nr (S' := [a248, a198]) (st' := [(.ref a248)]) ?_
  refine Ow.Go.old (fun o259 => ?_)
  have f260 := f247.keep Kh249 Ow.nin0 Ow.nin0
  have f261 := f260.keep Kh254 (Ow.ninS (by omega) Ow.nin0) (Ow.ninS (by omega) Ow.nin0)
  refine Ow.callVirtual (pc' := 69) (W := 0) (k' := 13) (n' := 56) (argsL := []) (rest := []) (K := "com/example/elsewhere/elsewhere/Field$Subfield") B at_66 (w46 hw) (w47 hw) (w49 hw) (w49 hw) (w48 hw) (w32 hw) (w50 hw) f256 (con_withoutSeparator_43 hw G GS (pa0 := a248) (pa1 := r244) (pa2 := r245) (px0 := y204) (px1 := y214) (pk0 := k246) o259 f256 f258 f261 (by omega) (by omega) (c205) (c215) c207 c217) pd29 ?_
  intro vq262 h263 S264 q262 zh263
  rcases q262 with q262 | q262 | q262 | q262 | q262 | q262
  ·obtain ⟨rfl, rfl, c265, c266, rfl⟩ := q262
   refine Ow.Go.nr (S' := [a248, a198]) (st' := [(.ref r244)]) ?_
   refine Ow.astore (pc' := 71) (Ls' := #[.val (.int x0), .val (.int x1), .val (.int x2), .val (.int x3), .val (.int x4), .val (.int x5), .val (.int 2), .val (.ref a198), .val (.ref r244), .val (.ref r244), .unset, .unset]) B at_69 ?_
   refine Ow.aload (pc' := 73) B at_71 ?_
   refine Ow.iload (pc' := 75) B at_73 ?_
   refine Ow.Go.old (fun o267 => ?_)
   have f268 := V239.keep Kh242 Ow.nin0
   have f269 := f268.keep Kh249 Ow.nin0
   have f270 := f269.keep Kh254 (Ow.ninS (by omega) Ow.nin0)
   refine Ow.callStatic (pc' := 78) (W := 0) (k' := 13) (n' := 56) (argsL := [(.ref a198), (.int 2)]) (rest := []) B at_75 (w70 hw) (w71 hw) (w4 hw) (w72 hw) (con_strip_44 hw G GS (pa0 := a198) (px0 := y204) (px1 := y214) (px2 := y224) (px3 := y234) (pk0 := ka198) o267 f270 (by omega) (c265) (c266) c207 c217 c227 c237) pd30 ?_
   intro vq271 h272 S273 q271 zh272
   obtain ⟨rfl, rfl, rfl⟩ := q271
   refine Ow.Go.nr (S' := [a248, a198]) (st' := [(.int 0)]) ?_
   refine Ow.istore (pc' := 80) (Ls' := #[.val (.int x0), .val (.int x1), .val (.int x2), .val (.int x3), .val (.int x4), .val (.int x5), .val (.int 2), .val (.ref a198), .val (.ref r244), .val (.ref r244), .val (.int 0), .unset]) B at_78 ?_
   refine Ow.iload (pc' := 82) B at_80 ?_
   refine Ow.ifT (pc' := 160) B at_82 (by decide) ?_
   refine Ow.aload (pc' := 162) B at_160 ?_
   refine Ow.aload (pc' := 164) B at_162 ?_
   refine Ow.Go.old (fun o274 => ?_)
   refine Ow.callVirtual (pc' := 167) (W := 0) (k' := 13) (n' := 56) (argsL := [(.ref r244)]) (rest := []) (K := "java/lang/String") B at_164 (w73 hw) (w74 hw) (w76 hw) (w76 hw) (w75 hw) (w11 hw) (w77 hw) (f261).1 (con_equals_22 hw G GS (pa0 := r244) o274) pd31 ?_
   intro vq275 h276 S277 q275 zh276
   obtain ⟨rfl, rfl, rfl⟩ := q275
   refine Ow.Go.nr (S' := [a248, a198]) (st' := [(.int 1)]) ?_
   exact Ow.retI (S' := []) (t := .boolean) B at_167 (rfl)
  ·obtain ⟨rfl, Kh263, c278, c279, c280, rfl⟩ := q262
   refine Ow.Go.nr (S' := [a248, a198]) (st' := [(.ref r244)]) ?_
   refine Ow.astore (pc' := 71) (Ls' := #[.val (.int x0), .val (.int x1), .val (.int x2), .val (.int x3), .val (.int x4), .val (.int x5), .val (.int 2), .val (.ref a198), .val (.ref r244), .val (.ref r244), .unset, .unset]) B at_69 ?_
   refine Ow.aload (pc' := 73) B at_71 ?_
   refine Ow.iload (pc' := 75) B at_73 ?_
   refine Ow.Go.old (fun o281 => ?_)
   have f282 := V239.keep Kh242 Ow.nin0
   have f283 := f282.keep Kh249 Ow.nin0
   have f284 := f283.keep Kh254 (Ow.ninS (by omega) Ow.nin0)
   have f285 := f284.keep Kh263 Ow.nin0
   refine Ow.callStatic (pc' := 78) (W := 0) (k' := 13) (n' := 56) (argsL := [(.ref a198), (.int 2)]) (rest := []) B at_75 (w70 hw) (w71 hw) (w4 hw) (w72 hw) (con_strip_45 hw G GS (pa0 := a198) (px0 := y204) (px1 := y214) (px2 := y224) (px3 := y234) (pk0 := ka198) o281 f285 (by omega) (c278) (c279) c207 c217 c227 c237) pd30 ?_
   intro vq286 h287 S288 q286 zh287
   obtain ⟨rfl, rfl, rfl⟩ := q286
   refine Ow.Go.nr (S' := [a248, a198]) (st' := [(.int 1)]) ?_
   refine Ow.istore (pc' := 80) (Ls' := #[.val (.int x0), .val (.int x1), .val (.int x2), .val (.int x3), .val (.int x4), .val (.int x5), .val (.int 2), .val (.ref a198), .val (.ref r244), .val (.ref r244), .val (.int 1), .unset]) B at_78 ?_
   refine Ow.iload (pc' := 82) B at_80 ?_
   refine Ow.ifF (pc' := 85) B at_82 (by decide) ?_
   refine Ow.aload (pc' := 87) B at_85 ?_
   refine Ow.iload (pc' := 89) B at_87 ?_
   refine Ow.iconst (pc' := 90) (x := 1) B at_89 ?_
   refine Ow.isub (pc' := 91) (z := 0) B at_90 ?_
   refine Ow.caload (pc' := 92) B at_91 f285 ⟨by decide, by decide⟩ rfl ?_
   refine Ow.bipush (pc' := 94) (x := 59) B at_92 ?_
   refine Ow.icmpF (pc' := 97) B at_94 (feq (fun q => c280 (Or.inl q))).1 ?_
   refine Ow.aload (pc' := 99) B at_97 ?_
   refine Ow.iload (pc' := 101) B at_99 ?_
   refine Ow.iconst (pc' := 102) (x := 1) B at_101 ?_
   refine Ow.isub (pc' := 103) (z := 0) B at_102 ?_
   refine Ow.caload (pc' := 104) B at_103 f285 ⟨by decide, by decide⟩ rfl ?_
   refine Ow.bipush (pc' := 106) (x := 44) B at_104 ?_
   refine Ow.icmpF (pc' := 109) B at_106 (feq (fun q => c280 (Or.inr (Or.inl q)))).1 ?_
   refine Ow.aload (pc' := 111) B at_109 ?_
   refine Ow.iload (pc' := 113) B at_111 ?_
   refine Ow.iconst (pc' := 114) (x := 1) B at_113 ?_
   refine Ow.isub (pc' := 115) (z := 0) B at_114 ?_
   refine Ow.caload (pc' := 116) B at_115 f285 ⟨by decide, by decide⟩ rfl ?_
   refine Ow.bipush (pc' := 118) (x := 58) B at_116 ?_
   refine Ow.icmpT (pc' := 160) B at_118 (feq (fun q => c280 (Or.inr (Or.inr q)))).2 ?_
   refine Ow.aload (pc' := 162) B at_160 ?_
   refine Ow.aload (pc' := 164) B at_162 ?_
   refine Ow.Go.old (fun o289 => ?_)
   have f290 := f261.keep Kh263 Ow.nin0 Ow.nin0
   refine Ow.callVirtual (pc' := 167) (W := 0) (k' := 13) (n' := 56) (argsL := [(.ref r244)]) (rest := []) (K := "java/lang/String") B at_164 (w73 hw) (w74 hw) (w76 hw) (w76 hw) (w75 hw) (w11 hw) (w77 hw) (f290).1 (con_equals_22 hw G GS (pa0 := r244) o289) pd31 ?_
   intro vq291 h292 S293 q291 zh292
   obtain ⟨rfl, rfl, rfl⟩ := q291
   refine Ow.Go.nr (S' := [a248, a198]) (st' := [(.int 1)]) ?_
   exact Ow.retI (S' := []) (t := .boolean) B at_167 (rfl)
  ·obtain ⟨r294, r295, k296, rfl, Kh263, c297, c298, c299, f300, rfl⟩ := q262
   have lr295 : (r295 : Nat) < h263.size := f300.ltt
   have lr294 : (r294 : Nat) < h263.size := f300.lt
   refine Ow.Go.nr (S' := [a248, a198]) (st' := [(.ref r294)]) ?_
   refine Ow.astore (pc' := 71) (Ls' := #[.val (.int x0), .val (.int x1), .val (.int x2), .val (.int x3), .val (.int x4), .val (.int x5), .val (.int 2), .val (.ref a198), .val (.ref r244), .val (.ref r294), .unset, .unset]) B at_69 ?_
   refine Ow.aload (pc' := 73) B at_71 ?_
   refine Ow.iload (pc' := 75) B at_73 ?_
   refine Ow.Go.old (fun o301 => ?_)
   have f302 := V239.keep Kh242 Ow.nin0
   have f303 := f302.keep Kh249 Ow.nin0
   have f304 := f303.keep Kh254 (Ow.ninS (by omega) Ow.nin0)
   have f305 := f304.keep Kh263 Ow.nin0
   refine Ow.callStatic (pc' := 78) (W := 0) (k' := 13) (n' := 56) (argsL := [(.ref a198), (.int 2)]) (rest := []) B at_75 (w70 hw) (w71 hw) (w4 hw) (w72 hw) (con_strip_45 hw G GS (pa0 := a198) (px0 := y204) (px1 := y214) (px2 := y224) (px3 := y234) (pk0 := ka198) o301 f305 (by omega) (c297) (c298) c207 c217 c227 c237) pd30 ?_
   intro vq306 h307 S308 q306 zh307
   obtain ⟨rfl, rfl, rfl⟩ := q306
   refine Ow.Go.nr (S' := [a248, a198]) (st' := [(.int 1)]) ?_
   refine Ow.istore (pc' := 80) (Ls' := #[.val (.int x0), .val (.int x1), .val (.int x2), .val (.int x3), .val (.int x4), .val (.int x5), .val (.int 2), .val (.ref a198), .val (.ref r244), .val (.ref r294), .val (.int 1), .unset]) B at_78 ?_
   refine Ow.iload (pc' := 82) B at_80 ?_
   refine Ow.ifF (pc' := 85) B at_82 (by decide) ?_
   refine Ow.Go.join (α := Unit) (pc1 := 121) (fun _ => #[.val (.int x0), .val (.int x1), .val (.int x2), .val (.int x3), .val (.int x4), .val (.int x5), .val (.int 2), .val (.ref a198), .val (.ref r244), .val (.ref r294), .val (.int 1), .unset]) (fun _ => []) ?_ ?_
   ·intro _
    refine Ow.aload (pc' := 123) B at_121 ?_
    refine Ow.iload (pc' := 125) B at_123 ?_
    refine Ow.iconst (pc' := 126) (x := 1) B at_125 ?_
    refine Ow.isub (pc' := 127) (z := 0) B at_126 ?_
    refine Ow.Go.old (fun o309 => ?_)
    refine Ow.callStatic (pc' := 130) (W := 0) (k' := 13) (n' := 56) (argsL := [(.ref a198), (.int 0)]) (rest := []) B at_127 (w70 hw) (w71 hw) (w4 hw) (w72 hw) (con_strip_21 hw G GS (pa0 := a198) o309) pd30 ?_
    intro vq310 h311 S312 q310 zh311
    obtain ⟨rfl, rfl, rfl⟩ := q310
    refine Ow.Go.nr (S' := [a248, a198]) (st' := [(.int 0)]) ?_
    refine Ow.istore (pc' := 132) (Ls' := #[.val (.int x0), .val (.int x1), .val (.int x2), .val (.int x3), .val (.int x4), .val (.int x5), .val (.int 2), .val (.ref a198), .val (.ref r244), .val (.ref r294), .val (.int 1), .val (.int 0)]) B at_130 ?_
    refine Ow.aload (pc' := 134) B at_132 ?_
    refine Ow.Go.old (fun o313 => ?_)
    refine Ow.callVirtual (pc' := 137) (W := 0) (k' := 13) (n' := 56) (argsL := []) (rest := []) (K := "java/lang/String") B at_134 (w172 hw) (w52 hw) (w54 hw) (w54 hw) (w53 hw) (w11 hw) (w55 hw) (f300).1 (gLen hw G GS o313 f300 (by simp)) pd21 ?_
    intro vq314 h315 S316 q314 zh315
    obtain ⟨rfl, rfl, rfl⟩ := q314
    refine Ow.Go.nr (S' := [a248, a198]) (st' := [(.int 0)]) ?_
    refine Ow.iload (pc' := 139) B at_137 ?_
    refine Ow.icmpF (pc' := 142) B at_139 (by decide) ?_
    refine Ow.aload (pc' := 144) B at_142 ?_
    refine Ow.aload (pc' := 146) B at_144 ?_
    refine Ow.iload (pc' := 148) B at_146 ?_
    refine Ow.Go.old (fun o317 => ?_)
    refine Ow.callStatic (pc' := 151) (W := 0) (k' := 13) (n' := 56) (argsL := [(.ref r294), (.ref a198), (.int 0)]) (rest := []) B at_148 (w173 hw) (w174 hw) (w4 hw) (w175 hw) (con_prefixEq_37 hw G GS (pa0 := r294) (pa1 := a198) o317) pd35 ?_
    intro vq318 h319 S320 q318 zh319
    obtain ⟨rfl, rfl, rfl⟩ := q318
    refine Ow.Go.nr (S' := [a248, a198]) (st' := [(.int 1)]) ?_
    refine Ow.ifF (pc' := 154) B at_151 (by decide) ?_
    refine Ow.iconst (pc' := 155) (x := 1) B at_154 ?_
    refine Ow.goto (pc' := 159) B at_155 ?_
    exact Ow.retI (S' := []) (t := .boolean) B at_159 (rfl)
   ·intro J321
    rcases c299 with c322 | c322 | c322
    ·refine Ow.aload (pc' := 87) B at_85 ?_
     refine Ow.iload (pc' := 89) B at_87 ?_
     refine Ow.iconst (pc' := 90) (x := 1) B at_89 ?_
     refine Ow.isub (pc' := 91) (z := 0) B at_90 ?_
     refine Ow.caload (pc' := 92) B at_91 f305 ⟨by decide, by decide⟩ rfl ?_
     refine Ow.bipush (pc' := 94) (x := 59) B at_92 ?_
     refine Ow.icmpT (pc' := 121) B at_94 (teq (c322)).1 ?_
     exact J321 ()
    ·refine Ow.aload (pc' := 87) B at_85 ?_
     refine Ow.iload (pc' := 89) B at_87 ?_
     refine Ow.iconst (pc' := 90) (x := 1) B at_89 ?_
     refine Ow.isub (pc' := 91) (z := 0) B at_90 ?_
     refine Ow.caload (pc' := 92) B at_91 f305 ⟨by decide, by decide⟩ rfl ?_
     refine Ow.bipush (pc' := 94) (x := 59) B at_92 ?_
     refine Ow.icmpF (pc' := 97) B at_94 (feq (by rw [c322]; decide)).1 ?_
     refine Ow.aload (pc' := 99) B at_97 ?_
     refine Ow.iload (pc' := 101) B at_99 ?_
     refine Ow.iconst (pc' := 102) (x := 1) B at_101 ?_
     refine Ow.isub (pc' := 103) (z := 0) B at_102 ?_
     refine Ow.caload (pc' := 104) B at_103 f305 ⟨by decide, by decide⟩ rfl ?_
     refine Ow.bipush (pc' := 106) (x := 44) B at_104 ?_
     refine Ow.icmpT (pc' := 121) B at_106 (teq (c322)).1 ?_
     exact J321 ()
    ·refine Ow.aload (pc' := 87) B at_85 ?_
     refine Ow.iload (pc' := 89) B at_87 ?_
     refine Ow.iconst (pc' := 90) (x := 1) B at_89 ?_
     refine Ow.isub (pc' := 91) (z := 0) B at_90 ?_
     refine Ow.caload (pc' := 92) B at_91 f305 ⟨by decide, by decide⟩ rfl ?_
     refine Ow.bipush (pc' := 94) (x := 59) B at_92 ?_
     refine Ow.icmpF (pc' := 97) B at_94 (feq (by rw [c322]; decide)).1 ?_
     refine Ow.aload (pc' := 99) B at_97 ?_
     refine Ow.iload (pc' := 101) B at_99 ?_
     refine Ow.iconst (pc' := 102) (x := 1) B at_101 ?_
     refine Ow.isub (pc' := 103) (z := 0) B at_102 ?_
     refine Ow.caload (pc' := 104) B at_103 f305 ⟨by decide, by decide⟩ rfl ?_
     refine Ow.bipush (pc' := 106) (x := 44) B at_104 ?_
     refine Ow.icmpF (pc' := 109) B at_106 (feq (by rw [c322]; decide)).1 ?_
     refine Ow.aload (pc' := 111) B at_109 ?_
     refine Ow.iload (pc' := 113) B at_111 ?_
     refine Ow.iconst (pc' := 114) (x := 1) B at_113 ?_
     refine Ow.isub (pc' := 115) (z := 0) B at_114 ?_
     refine Ow.caload (pc' := 116) B at_115 f305 ⟨by decide, by decide⟩ rfl ?_
     refine Ow.bipush (pc' := 118) (x := 58) B at_116 ?_
     refine Ow.icmpF (pc' := 121) B at_118 (teq (c322)).2 ?_
     exact J321 ()
  ·obtain ⟨rfl, Kh263, c323, c324, rfl⟩ := q262
   refine Ow.Go.nr (S' := [a248, a198]) (st' := [(.ref r244)]) ?_
   refine Ow.astore (pc' := 71) (Ls' := #[.val (.int x0), .val (.int x1), .val (.int x2), .val (.int x3), .val (.int x4), .val (.int x5), .val (.int 2), .val (.ref a198), .val (.ref r244), .val (.ref r244), .unset, .unset]) B at_69 ?_
   refine Ow.aload (pc' := 73) B at_71 ?_
   refine Ow.iload (pc' := 75) B at_73 ?_
   refine Ow.Go.old (fun o325 => ?_)
   have f326 := V239.keep Kh242 Ow.nin0
   have f327 := f326.keep Kh249 Ow.nin0
   have f328 := f327.keep Kh254 (Ow.ninS (by omega) Ow.nin0)
   have f329 := f328.keep Kh263 Ow.nin0
   refine Ow.callStatic (pc' := 78) (W := 0) (k' := 13) (n' := 56) (argsL := [(.ref a198), (.int 2)]) (rest := []) B at_75 (w70 hw) (w71 hw) (w4 hw) (w72 hw) (con_strip_46 hw G GS (pa0 := a198) (px0 := y204) (px1 := y214) (px2 := y224) (px3 := y234) (pk0 := ka198) o325 f329 (by omega) (c323) c207 c217 c227 c237) pd30 ?_
   intro vq330 h331 S332 q330 zh331
   obtain ⟨rfl, rfl, rfl⟩ := q330
   refine Ow.Go.nr (S' := [a248, a198]) (st' := [(.int 2)]) ?_
   refine Ow.istore (pc' := 80) (Ls' := #[.val (.int x0), .val (.int x1), .val (.int x2), .val (.int x3), .val (.int x4), .val (.int x5), .val (.int 2), .val (.ref a198), .val (.ref r244), .val (.ref r244), .val (.int 2), .unset]) B at_78 ?_
   refine Ow.iload (pc' := 82) B at_80 ?_
   refine Ow.ifF (pc' := 85) B at_82 (by decide) ?_
   refine Ow.aload (pc' := 87) B at_85 ?_
   refine Ow.iload (pc' := 89) B at_87 ?_
   refine Ow.iconst (pc' := 90) (x := 1) B at_89 ?_
   refine Ow.isub (pc' := 91) (z := 1) B at_90 ?_
   refine Ow.caload (pc' := 92) B at_91 f329 ⟨by decide, by decide⟩ rfl ?_
   refine Ow.bipush (pc' := 94) (x := 59) B at_92 ?_
   refine Ow.icmpF (pc' := 97) B at_94 (feq (fun q => c324 (Or.inl q))).1 ?_
   refine Ow.aload (pc' := 99) B at_97 ?_
   refine Ow.iload (pc' := 101) B at_99 ?_
   refine Ow.iconst (pc' := 102) (x := 1) B at_101 ?_
   refine Ow.isub (pc' := 103) (z := 1) B at_102 ?_
   refine Ow.caload (pc' := 104) B at_103 f329 ⟨by decide, by decide⟩ rfl ?_
   refine Ow.bipush (pc' := 106) (x := 44) B at_104 ?_
   refine Ow.icmpF (pc' := 109) B at_106 (feq (fun q => c324 (Or.inr (Or.inl q)))).1 ?_
   refine Ow.aload (pc' := 111) B at_109 ?_
   refine Ow.iload (pc' := 113) B at_111 ?_
   refine Ow.iconst (pc' := 114) (x := 1) B at_113 ?_
   refine Ow.isub (pc' := 115) (z := 1) B at_114 ?_
   refine Ow.caload (pc' := 116) B at_115 f329 ⟨by decide, by decide⟩ rfl ?_
   refine Ow.bipush (pc' := 118) (x := 58) B at_116 ?_
   refine Ow.icmpT (pc' := 160) B at_118 (feq (fun q => c324 (Or.inr (Or.inr q)))).2 ?_
   refine Ow.aload (pc' := 162) B at_160 ?_
   refine Ow.aload (pc' := 164) B at_162 ?_
   refine Ow.Go.old (fun o333 => ?_)
   have f334 := f261.keep Kh263 Ow.nin0 Ow.nin0
   refine Ow.callVirtual (pc' := 167) (W := 0) (k' := 13) (n' := 56) (argsL := [(.ref r244)]) (rest := []) (K := "java/lang/String") B at_164 (w73 hw) (w74 hw) (w76 hw) (w76 hw) (w75 hw) (w11 hw) (w77 hw) (f334).1 (con_equals_22 hw G GS (pa0 := r244) o333) pd31 ?_
   intro vq335 h336 S337 q335 zh336
   obtain ⟨rfl, rfl, rfl⟩ := q335
   refine Ow.Go.nr (S' := [a248, a198]) (st' := [(.int 1)]) ?_
   exact Ow.retI (S' := []) (t := .boolean) B at_167 (rfl)
  ·obtain ⟨r338, r339, k340, rfl, Kh263, c341, c342, c343, f344, rfl⟩ := q262
   have lr339 : (r339 : Nat) < h263.size := f344.ltt
   have lr338 : (r338 : Nat) < h263.size := f344.lt
   refine Ow.Go.nr (S' := [a248, a198]) (st' := [(.ref r338)]) ?_
   refine Ow.astore (pc' := 71) (Ls' := #[.val (.int x0), .val (.int x1), .val (.int x2), .val (.int x3), .val (.int x4), .val (.int x5), .val (.int 2), .val (.ref a198), .val (.ref r244), .val (.ref r338), .unset, .unset]) B at_69 ?_
   refine Ow.aload (pc' := 73) B at_71 ?_
   refine Ow.iload (pc' := 75) B at_73 ?_
   refine Ow.Go.old (fun o345 => ?_)
   have f346 := V239.keep Kh242 Ow.nin0
   have f347 := f346.keep Kh249 Ow.nin0
   have f348 := f347.keep Kh254 (Ow.ninS (by omega) Ow.nin0)
   have f349 := f348.keep Kh263 Ow.nin0
   refine Ow.callStatic (pc' := 78) (W := 0) (k' := 13) (n' := 56) (argsL := [(.ref a198), (.int 2)]) (rest := []) B at_75 (w70 hw) (w71 hw) (w4 hw) (w72 hw) (con_strip_46 hw G GS (pa0 := a198) (px0 := y204) (px1 := y214) (px2 := y224) (px3 := y234) (pk0 := ka198) o345 f349 (by omega) (c341) c207 c217 c227 c237) pd30 ?_
   intro vq350 h351 S352 q350 zh351
   obtain ⟨rfl, rfl, rfl⟩ := q350
   refine Ow.Go.nr (S' := [a248, a198]) (st' := [(.int 2)]) ?_
   refine Ow.istore (pc' := 80) (Ls' := #[.val (.int x0), .val (.int x1), .val (.int x2), .val (.int x3), .val (.int x4), .val (.int x5), .val (.int 2), .val (.ref a198), .val (.ref r244), .val (.ref r338), .val (.int 2), .unset]) B at_78 ?_
   refine Ow.iload (pc' := 82) B at_80 ?_
   refine Ow.ifF (pc' := 85) B at_82 (by decide) ?_
   refine Ow.Go.join (α := Unit) (pc1 := 121) (fun _ => #[.val (.int x0), .val (.int x1), .val (.int x2), .val (.int x3), .val (.int x4), .val (.int x5), .val (.int 2), .val (.ref a198), .val (.ref r244), .val (.ref r338), .val (.int 2), .unset]) (fun _ => []) ?_ ?_
   ·intro _
    refine Ow.aload (pc' := 123) B at_121 ?_
    refine Ow.iload (pc' := 125) B at_123 ?_
    refine Ow.iconst (pc' := 126) (x := 1) B at_125 ?_
    refine Ow.isub (pc' := 127) (z := 1) B at_126 ?_
    refine Ow.Go.old (fun o353 => ?_)
    refine Ow.callStatic (pc' := 130) (W := 0) (k' := 13) (n' := 56) (argsL := [(.ref a198), (.int 1)]) (rest := []) B at_127 (w70 hw) (w71 hw) (w4 hw) (w72 hw) (con_strip_35 hw G GS (pa0 := a198) (px0 := y204) (px1 := y214) (px2 := y224) (px3 := y234) (pk0 := ka198) o353 f349 (by omega) (c343) c207 c217 c227 c237) pd30 ?_
    intro vq354 h355 S356 q354 zh355
    obtain ⟨rfl, rfl, rfl⟩ := q354
    refine Ow.Go.nr (S' := [a248, a198]) (st' := [(.int 0)]) ?_
    refine Ow.istore (pc' := 132) (Ls' := #[.val (.int x0), .val (.int x1), .val (.int x2), .val (.int x3), .val (.int x4), .val (.int x5), .val (.int 2), .val (.ref a198), .val (.ref r244), .val (.ref r338), .val (.int 2), .val (.int 0)]) B at_130 ?_
    refine Ow.aload (pc' := 134) B at_132 ?_
    refine Ow.Go.old (fun o357 => ?_)
    refine Ow.callVirtual (pc' := 137) (W := 0) (k' := 13) (n' := 56) (argsL := []) (rest := []) (K := "java/lang/String") B at_134 (w172 hw) (w52 hw) (w54 hw) (w54 hw) (w53 hw) (w11 hw) (w55 hw) (f344).1 (gLen hw G GS o357 f344 (by simp)) pd21 ?_
    intro vq358 h359 S360 q358 zh359
    obtain ⟨rfl, rfl, rfl⟩ := q358
    refine Ow.Go.nr (S' := [a248, a198]) (st' := [(.int 0)]) ?_
    refine Ow.iload (pc' := 139) B at_137 ?_
    refine Ow.icmpF (pc' := 142) B at_139 (by decide) ?_
    refine Ow.aload (pc' := 144) B at_142 ?_
    refine Ow.aload (pc' := 146) B at_144 ?_
    refine Ow.iload (pc' := 148) B at_146 ?_
    refine Ow.Go.old (fun o361 => ?_)
    refine Ow.callStatic (pc' := 151) (W := 0) (k' := 13) (n' := 56) (argsL := [(.ref r338), (.ref a198), (.int 0)]) (rest := []) B at_148 (w173 hw) (w174 hw) (w4 hw) (w175 hw) (con_prefixEq_37 hw G GS (pa0 := r338) (pa1 := a198) o361) pd35 ?_
    intro vq362 h363 S364 q362 zh363
    obtain ⟨rfl, rfl, rfl⟩ := q362
    refine Ow.Go.nr (S' := [a248, a198]) (st' := [(.int 1)]) ?_
    refine Ow.ifF (pc' := 154) B at_151 (by decide) ?_
    refine Ow.iconst (pc' := 155) (x := 1) B at_154 ?_
    refine Ow.goto (pc' := 159) B at_155 ?_
    exact Ow.retI (S' := []) (t := .boolean) B at_159 (rfl)
   ·intro J365
    rcases c342 with c366 | c366 | c366
    ·refine Ow.aload (pc' := 87) B at_85 ?_
     refine Ow.iload (pc' := 89) B at_87 ?_
     refine Ow.iconst (pc' := 90) (x := 1) B at_89 ?_
     refine Ow.isub (pc' := 91) (z := 1) B at_90 ?_
     refine Ow.caload (pc' := 92) B at_91 f349 ⟨by decide, by decide⟩ rfl ?_
     refine Ow.bipush (pc' := 94) (x := 59) B at_92 ?_
     refine Ow.icmpT (pc' := 121) B at_94 (teq (c366)).1 ?_
     exact J365 ()
    ·refine Ow.aload (pc' := 87) B at_85 ?_
     refine Ow.iload (pc' := 89) B at_87 ?_
     refine Ow.iconst (pc' := 90) (x := 1) B at_89 ?_
     refine Ow.isub (pc' := 91) (z := 1) B at_90 ?_
     refine Ow.caload (pc' := 92) B at_91 f349 ⟨by decide, by decide⟩ rfl ?_
     refine Ow.bipush (pc' := 94) (x := 59) B at_92 ?_
     refine Ow.icmpF (pc' := 97) B at_94 (feq (by rw [c366]; decide)).1 ?_
     refine Ow.aload (pc' := 99) B at_97 ?_
     refine Ow.iload (pc' := 101) B at_99 ?_
     refine Ow.iconst (pc' := 102) (x := 1) B at_101 ?_
     refine Ow.isub (pc' := 103) (z := 1) B at_102 ?_
     refine Ow.caload (pc' := 104) B at_103 f349 ⟨by decide, by decide⟩ rfl ?_
     refine Ow.bipush (pc' := 106) (x := 44) B at_104 ?_
     refine Ow.icmpT (pc' := 121) B at_106 (teq (c366)).1 ?_
     exact J365 ()
    ·refine Ow.aload (pc' := 87) B at_85 ?_
     refine Ow.iload (pc' := 89) B at_87 ?_
     refine Ow.iconst (pc' := 90) (x := 1) B at_89 ?_
     refine Ow.isub (pc' := 91) (z := 1) B at_90 ?_
     refine Ow.caload (pc' := 92) B at_91 f349 ⟨by decide, by decide⟩ rfl ?_
     refine Ow.bipush (pc' := 94) (x := 59) B at_92 ?_
     refine Ow.icmpF (pc' := 97) B at_94 (feq (by rw [c366]; decide)).1 ?_
     refine Ow.aload (pc' := 99) B at_97 ?_
     refine Ow.iload (pc' := 101) B at_99 ?_
     refine Ow.iconst (pc' := 102) (x := 1) B at_101 ?_
     refine Ow.isub (pc' := 103) (z := 1) B at_102 ?_
     refine Ow.caload (pc' := 104) B at_103 f349 ⟨by decide, by decide⟩ rfl ?_
     refine Ow.bipush (pc' := 106) (x := 44) B at_104 ?_
     refine Ow.icmpF (pc' := 109) B at_106 (feq (by rw [c366]; decide)).1 ?_
     refine Ow.aload (pc' := 111) B at_109 ?_
     refine Ow.iload (pc' := 113) B at_111 ?_
     refine Ow.iconst (pc' := 114) (x := 1) B at_113 ?_
     refine Ow.isub (pc' := 115) (z := 1) B at_114 ?_
     refine Ow.caload (pc' := 116) B at_115 f349 ⟨by decide, by decide⟩ rfl ?_
     refine Ow.bipush (pc' := 118) (x := 58) B at_116 ?_
     refine Ow.icmpF (pc' := 121) B at_118 (teq (c366)).2 ?_
     exact J365 ()
  ·obtain ⟨r367, r368, k369, rfl, Kh263, c370, c371, c372, f373, rfl⟩ := q262
   have lr368 : (r368 : Nat) < h263.size := f373.ltt
   have lr367 : (r367 : Nat) < h263.size := f373.lt
   refine Ow.Go.nr (S' := [a248, a198]) (st' := [(.ref r367)]) ?_
   refine Ow.astore (pc' := 71) (Ls' := #[.val (.int x0), .val (.int x1), .val (.int x2), .val (.int x3), .val (.int x4), .val (.int x5), .val (.int 2), .val (.ref a198), .val (.ref r244), .val (.ref r367), .unset, .unset]) B at_69 ?_
   refine Ow.aload (pc' := 73) B at_71 ?_
   refine Ow.iload (pc' := 75) B at_73 ?_
   refine Ow.Go.old (fun o374 => ?_)
   have f375 := V239.keep Kh242 Ow.nin0
   have f376 := f375.keep Kh249 Ow.nin0
   have f377 := f376.keep Kh254 (Ow.ninS (by omega) Ow.nin0)
   have f378 := f377.keep Kh263 Ow.nin0
   refine Ow.callStatic (pc' := 78) (W := 0) (k' := 13) (n' := 56) (argsL := [(.ref a198), (.int 2)]) (rest := []) B at_75 (w70 hw) (w71 hw) (w4 hw) (w72 hw) (con_strip_46 hw G GS (pa0 := a198) (px0 := y204) (px1 := y214) (px2 := y224) (px3 := y234) (pk0 := ka198) o374 f378 (by omega) (c370) c207 c217 c227 c237) pd30 ?_
   intro vq379 h380 S381 q379 zh380
   obtain ⟨rfl, rfl, rfl⟩ := q379
   refine Ow.Go.nr (S' := [a248, a198]) (st' := [(.int 2)]) ?_
   refine Ow.istore (pc' := 80) (Ls' := #[.val (.int x0), .val (.int x1), .val (.int x2), .val (.int x3), .val (.int x4), .val (.int x5), .val (.int 2), .val (.ref a198), .val (.ref r244), .val (.ref r367), .val (.int 2), .unset]) B at_78 ?_
   refine Ow.iload (pc' := 82) B at_80 ?_
   refine Ow.ifF (pc' := 85) B at_82 (by decide) ?_
   refine Ow.Go.join (α := Unit) (pc1 := 121) (fun _ => #[.val (.int x0), .val (.int x1), .val (.int x2), .val (.int x3), .val (.int x4), .val (.int x5), .val (.int 2), .val (.ref a198), .val (.ref r244), .val (.ref r367), .val (.int 2), .unset]) (fun _ => []) ?_ ?_
   ·intro _
    refine Ow.aload (pc' := 123) B at_121 ?_
    refine Ow.iload (pc' := 125) B at_123 ?_
    refine Ow.iconst (pc' := 126) (x := 1) B at_125 ?_
    refine Ow.isub (pc' := 127) (z := 1) B at_126 ?_
    refine Ow.Go.old (fun o382 => ?_)
    refine Ow.callStatic (pc' := 130) (W := 0) (k' := 13) (n' := 56) (argsL := [(.ref a198), (.int 1)]) (rest := []) B at_127 (w70 hw) (w71 hw) (w4 hw) (w72 hw) (con_strip_36 hw G GS (pa0 := a198) (px0 := y204) (px1 := y214) (px2 := y224) (px3 := y234) (pk0 := ka198) o382 f378 (by omega) (c372) c207 c217 c227 c237) pd30 ?_
    intro vq383 h384 S385 q383 zh384
    obtain ⟨rfl, rfl, rfl⟩ := q383
    refine Ow.Go.nr (S' := [a248, a198]) (st' := [(.int 1)]) ?_
    refine Ow.istore (pc' := 132) (Ls' := #[.val (.int x0), .val (.int x1), .val (.int x2), .val (.int x3), .val (.int x4), .val (.int x5), .val (.int 2), .val (.ref a198), .val (.ref r244), .val (.ref r367), .val (.int 2), .val (.int 1)]) B at_130 ?_
    refine Ow.aload (pc' := 134) B at_132 ?_
    refine Ow.Go.old (fun o386 => ?_)
    refine Ow.callVirtual (pc' := 137) (W := 0) (k' := 13) (n' := 56) (argsL := []) (rest := []) (K := "java/lang/String") B at_134 (w172 hw) (w52 hw) (w54 hw) (w54 hw) (w53 hw) (w11 hw) (w55 hw) (f373).1 (gLen hw G GS o386 f373 (by simp)) pd21 ?_
    intro vq387 h388 S389 q387 zh388
    obtain ⟨rfl, rfl, rfl⟩ := q387
    refine Ow.Go.nr (S' := [a248, a198]) (st' := [(.int 1)]) ?_
    refine Ow.iload (pc' := 139) B at_137 ?_
    refine Ow.icmpF (pc' := 142) B at_139 (by decide) ?_
    refine Ow.aload (pc' := 144) B at_142 ?_
    refine Ow.aload (pc' := 146) B at_144 ?_
    refine Ow.iload (pc' := 148) B at_146 ?_
    refine Ow.Go.old (fun o390 => ?_)
    refine Ow.callStatic (pc' := 151) (W := 0) (k' := 13) (n' := 56) (argsL := [(.ref r367), (.ref a198), (.int 1)]) (rest := []) B at_148 (w173 hw) (w174 hw) (w4 hw) (w175 hw) (con_prefixEq_47 hw G GS (pa0 := r367) (pa1 := a198) (pa2 := r368) (px0 := y204) (px1 := y214) (px2 := y224) (px3 := y234) (pk0 := k369) (pk1 := ka198) o390 f373 f378 (by omega) c207 c217 c227 c237) pd35 ?_
    intro vq391 h392 S393 q391 zh392
    obtain ⟨rfl, rfl, rfl⟩ := q391
    refine Ow.Go.nr (S' := [a248, a198]) (st' := [(.int 1)]) ?_
    refine Ow.ifF (pc' := 154) B at_151 (by decide) ?_
    refine Ow.iconst (pc' := 155) (x := 1) B at_154 ?_
    refine Ow.goto (pc' := 159) B at_155 ?_
    exact Ow.retI (S' := []) (t := .boolean) B at_159 (rfl)
   ·intro J394
    rcases c371 with c395 | c395 | c395
    ·refine Ow.aload (pc' := 87) B at_85 ?_
     refine Ow.iload (pc' := 89) B at_87 ?_
     refine Ow.iconst (pc' := 90) (x := 1) B at_89 ?_
     refine Ow.isub (pc' := 91) (z := 1) B at_90 ?_
     refine Ow.caload (pc' := 92) B at_91 f378 ⟨by decide, by decide⟩ rfl ?_
     refine Ow.bipush (pc' := 94) (x := 59) B at_92 ?_
     refine Ow.icmpT (pc' := 121) B at_94 (teq (c395)).1 ?_
     exact J394 ()
    ·refine Ow.aload (pc' := 87) B at_85 ?_
     refine Ow.iload (pc' := 89) B at_87 ?_
     refine Ow.iconst (pc' := 90) (x := 1) B at_89 ?_
     refine Ow.isub (pc' := 91) (z := 1) B at_90 ?_
     refine Ow.caload (pc' := 92) B at_91 f378 ⟨by decide, by decide⟩ rfl ?_
     refine Ow.bipush (pc' := 94) (x := 59) B at_92 ?_
     refine Ow.icmpF (pc' := 97) B at_94 (feq (by rw [c395]; decide)).1 ?_
     refine Ow.aload (pc' := 99) B at_97 ?_
     refine Ow.iload (pc' := 101) B at_99 ?_
     refine Ow.iconst (pc' := 102) (x := 1) B at_101 ?_
     refine Ow.isub (pc' := 103) (z := 1) B at_102 ?_
     refine Ow.caload (pc' := 104) B at_103 f378 ⟨by decide, by decide⟩ rfl ?_
     refine Ow.bipush (pc' := 106) (x := 44) B at_104 ?_
     refine Ow.icmpT (pc' := 121) B at_106 (teq (c395)).1 ?_
     exact J394 ()
    ·refine Ow.aload (pc' := 87) B at_85 ?_
     refine Ow.iload (pc' := 89) B at_87 ?_
     refine Ow.iconst (pc' := 90) (x := 1) B at_89 ?_
     refine Ow.isub (pc' := 91) (z := 1) B at_90 ?_
     refine Ow.caload (pc' := 92) B at_91 f378 ⟨by decide, by decide⟩ rfl ?_
     refine Ow.bipush (pc' := 94) (x := 59) B at_92 ?_
     refine Ow.icmpF (pc' := 97) B at_94 (feq (by rw [c395]; decide)).1 ?_
     refine Ow.aload (pc' := 99) B at_97 ?_
     refine Ow.iload (pc' := 101) B at_99 ?_
     refine Ow.iconst (pc' := 102) (x := 1) B at_101 ?_
     refine Ow.isub (pc' := 103) (z := 1) B at_102 ?_
     refine Ow.caload (pc' := 104) B at_103 f378 ⟨by decide, by decide⟩ rfl ?_
     refine Ow.bipush (pc' := 106) (x := 44) B at_104 ?_
     refine Ow.icmpF (pc' := 109) B at_106 (feq (by rw [c395]; decide)).1 ?_
     refine Ow.aload (pc' := 111) B at_109 ?_
     refine Ow.iload (pc' := 113) B at_111 ?_
     refine Ow.iconst (pc' := 114) (x := 1) B at_113 ?_
     refine Ow.isub (pc' := 115) (z := 1) B at_114 ?_
     refine Ow.caload (pc' := 116) B at_115 f378 ⟨by decide, by decide⟩ rfl ?_
     refine Ow.bipush (pc' := 118) (x := 58) B at_116 ?_
     refine Ow.icmpF (pc' := 121) B at_118 (teq (c395)).2 ?_
     exact J394 ()
 ·refine Ow.irem (pc' := 6) (z := 3) (hz := hz5) B at_5 ?_
  refine Ow.istore (pc' := 8) (Ls' := #[.val (.int x0), .val (.int x1), .val (.int x2), .val (.int x3), .val (.int x4), .val (.int x5), .val (.int 3), .unset, .unset, .unset, .unset, .unset]) B at_6 ?_
  refine Ow.iconst (pc' := 9) (x := 4) B at_8 ?_
  refine Ow.newArr (pc' := 11) (k' := 1) (n' := 4) (cap := 4) B at_9 (w1 hw) (by decide) (by decide) ?_
  intro h397 a396 ka396 ga396 ba396 Kh397 V0a396
  have zh397 := Kh397.1
  have la396 : (a396 : Nat) < h397.size := V0a396.lt
  have Va396 : Arv Z h397 a396 ka396 .char (4 : Int32) [(.int 0), (.int 0), (.int 0), (.int 0)] (.int 0) := V0a396.pad (pad_rep [] (.int 0) 4)
  refine Ow.astore (pc' := 13) (Ls' := #[.val (.int x0), .val (.int x1), .val (.int x2), .val (.int x3), .val (.int x4), .val (.int x5), .val (.int 3), .val (.ref a396), .unset, .unset, .unset, .unset]) B at_11 ?_
  refine Ow.aload (pc' := 15) B at_13 ?_
  refine Ow.iconst (pc' := 16) (x := 0) B at_15 ?_
  refine Ow.iloadN (pc' := 17) B at_16 ?_
  refine Ow.Go.old (fun o398 => ?_)
  refine Ow.callStatic (pc' := 20) (W := 2) (k' := 1) (n' := 4) (argsL := [(.int x1)]) (rest := [(.int 0), (.ref a396)]) B at_17 (w2 hw) (w3 hw) (w4 hw) (w5 hw) (con_sel_14 hw G GS (px0 := x1) o398) pd24 ?_
  intro vq399 h400 S401 q399 zh400
  obtain ⟨y402, rfl, rfl, c403, c404, c405, rfl⟩ := q399
  refine Ow.Go.nr (S' := [a396]) (st' := [(.int y402), (.int 0), (.ref a396)]) ?_
  refine Ow.castore (pc' := 21) (i := 0) B at_20 Va396 ⟨by decide, by decide⟩ ?_
  intro h406 Kh406 V0h406
  have zh406 := Kh406.1
  have V407 : Arv Z h406 a396 ka396 .char (4 : Int32) [(.int y402), (.int 0), (.int 0), (.int 0)] (.int 0) := (by have e0 := V0h406; rw [show nar .char y402 = y402 from c405] at e0; exact e0)
  refine Ow.aload (pc' := 23) B at_21 ?_
  refine Ow.iconst (pc' := 24) (x := 1) B at_23 ?_
  refine Ow.iloadN (pc' := 25) B at_24 ?_
  refine Ow.Go.old (fun o408 => ?_)
  refine Ow.callStatic (pc' := 28) (W := 2) (k' := 1) (n' := 4) (argsL := [(.int x2)]) (rest := [(.int 1), (.ref a396)]) B at_25 (w2 hw) (w3 hw) (w4 hw) (w5 hw) (con_sel_14 hw G GS (px0 := x2) o408) pd24 ?_
  intro vq409 h410 S411 q409 zh410
  obtain ⟨y412, rfl, rfl, c413, c414, c415, rfl⟩ := q409
  refine Ow.Go.nr (S' := [a396]) (st' := [(.int y412), (.int 1), (.ref a396)]) ?_
  refine Ow.castore (pc' := 29) (i := 1) B at_28 V407 ⟨by decide, by decide⟩ ?_
  intro h416 Kh416 V0h416
  have zh416 := Kh416.1
  have V417 : Arv Z h416 a396 ka396 .char (4 : Int32) [(.int y402), (.int y412), (.int 0), (.int 0)] (.int 0) := (by have e0 := V0h416; rw [show nar .char y412 = y412 from c415] at e0; exact e0)
  refine Ow.aload (pc' := 31) B at_29 ?_
  refine Ow.iconst (pc' := 32) (x := 2) B at_31 ?_
  refine Ow.iloadN (pc' := 33) B at_32 ?_
  refine Ow.Go.old (fun o418 => ?_)
  refine Ow.callStatic (pc' := 36) (W := 2) (k' := 1) (n' := 4) (argsL := [(.int x3)]) (rest := [(.int 2), (.ref a396)]) B at_33 (w2 hw) (w3 hw) (w4 hw) (w5 hw) (con_sel_14 hw G GS (px0 := x3) o418) pd24 ?_
  intro vq419 h420 S421 q419 zh420
  obtain ⟨y422, rfl, rfl, c423, c424, c425, rfl⟩ := q419
  refine Ow.Go.nr (S' := [a396]) (st' := [(.int y422), (.int 2), (.ref a396)]) ?_
  refine Ow.castore (pc' := 37) (i := 2) B at_36 V417 ⟨by decide, by decide⟩ ?_
  intro h426 Kh426 V0h426
  have zh426 := Kh426.1
  have V427 : Arv Z h426 a396 ka396 .char (4 : Int32) [(.int y402), (.int y412), (.int y422), (.int 0)] (.int 0) := (by have e0 := V0h426; rw [show nar .char y422 = y422 from c425] at e0; exact e0)
  refine Ow.aload (pc' := 39) B at_37 ?_
  refine Ow.iconst (pc' := 40) (x := 3) B at_39 ?_
  refine Ow.iload (pc' := 42) B at_40 ?_
  refine Ow.Go.old (fun o428 => ?_)
  refine Ow.callStatic (pc' := 45) (W := 2) (k' := 1) (n' := 4) (argsL := [(.int x4)]) (rest := [(.int 3), (.ref a396)]) B at_42 (w2 hw) (w3 hw) (w4 hw) (w5 hw) (con_sel_14 hw G GS (px0 := x4) o428) pd24 ?_
  intro vq429 h430 S431 q429 zh430
  obtain ⟨y432, rfl, rfl, c433, c434, c435, rfl⟩ := q429
  refine Ow.Go.nr (S' := [a396]) (st' := [(.int y432), (.int 3), (.ref a396)]) ?_
  refine Ow.castore (pc' := 46) (i := 3) B at_45 V427 ⟨by decide, by decide⟩ ?_
  intro h436 Kh436 V0h436
  have zh436 := Kh436.1
  have V437 : Arv Z h436 a396 ka396 .char (4 : Int32) [(.int y402), (.int y412), (.int y422), (.int y432)] (.int 0) := (by have e0 := V0h436; rw [show nar .char y432 = y432 from c435] at e0; exact e0)
  refine Ow.iload (pc' := 48) B at_46 ?_
  refine Ow.aload (pc' := 50) B at_48 ?_
  refine Ow.Go.old (fun o438 => ?_)
  refine Ow.callStatic (pc' := 53) (W := 0) (k' := 7) (n' := 23) (argsL := [(.int 3), (.ref a396)]) (rest := []) B at_50 (w6 hw) (w7 hw) (w4 hw) (w8 hw) (con_str_48 hw G GS (pa0 := a396) (px0 := y402) (px1 := y412) (px2 := y422) (px3 := y432) (pk0 := ka396) o438 V437 (by omega) (c403) (c404) (c413) (c414) (c423) (c424) c405 c415 c425 c435) pd26 ?_
  intro vq439 h440 S441 q439 zh440
  obtain ⟨r442, r443, k444, rfl, Kh440, br442, f445, rfl⟩ := q439
  have lr443 : (r443 : Nat) < h440.size := f445.ltt
  have lr442 : (r442 : Nat) < h440.size := f445.lt
  refine Ow.Go.nr (S' := [a396]) (st' := [(.ref r442)]) ?_
  refine Ow.astore (pc' := 55) (Ls' := #[.val (.int x0), .val (.int x1), .val (.int x2), .val (.int x3), .val (.int x4), .val (.int x5), .val (.int 3), .val (.ref a396), .val (.ref r442), .unset, .unset, .unset]) B at_53 ?_
  refine Ow.newObj (pc' := 58) (k' := 8) (n' := 25) B at_55 (w30 hw) (w31 hw) (w32 hw) ?_
  intro h447 a446 ga446 ba446 Kh447 Aa446 Da446
  have zh447 := Kh447.1
  have la446 : (a446 : Nat) < h447.size := Aa446.lt
  have f448 : Fld Z h447 a446 "com/example/elsewhere/elsewhere/Field$Subfield" "code" "I" (.int 0) := Da446 (Or.inr (w43 hw)) (ty := .int) (by decide)
  have f449 : Fld Z h447 a446 "com/example/elsewhere/elsewhere/Field$Subfield" "value" "Ljava/lang/String;" .null := Da446 (Or.inr (w45 hw)) (ty := (.object "java/lang/String")) (by decide)
  refine Ow.dup (pc' := 59) B at_58 ?_
  refine Ow.iload (pc' := 61) B at_59 ?_
  refine Ow.aload (pc' := 63) B at_61 ?_
  refine Ow.Go.old (fun o450 => ?_)
  refine Ow.callInit (pc' := 66) (W := 1) (k' := 8) (n' := 25) (argsL := [(.int x5), (.ref r442)]) (rest := [(.ref a446)]) B at_63 (w33 hw) (w34 hw) (w32 hw) (w35 hw) (con_init_17 hw G GS (pa0 := a446) (pa1 := r442) (px0 := x5) o450 Aa446 f448 f449 (by omega)) pd28 ?_
  intro vq451 h452 S453 q451 zh452
  obtain ⟨rfl, Kh452, f454, f455, f456, rfl⟩ := q451
  refine Ow.Go.nr (S' := [a446, a396]) (st' := [(.ref a446)]) ?_
  refine Ow.Go.old (fun o457 => ?_)
  have f458 := f445.keep Kh447 Ow.nin0 Ow.nin0
  have f459 := f458.keep Kh452 (Ow.ninS (by omega) Ow.nin0) (Ow.ninS (by omega) Ow.nin0)
  refine Ow.callVirtual (pc' := 69) (W := 0) (k' := 13) (n' := 57) (argsL := []) (rest := []) (K := "com/example/elsewhere/elsewhere/Field$Subfield") B at_66 (w46 hw) (w47 hw) (w49 hw) (w49 hw) (w48 hw) (w32 hw) (w50 hw) f454 (con_withoutSeparator_55 hw G GS (pa0 := a446) (pa1 := r442) (pa2 := r443) (px0 := y402) (px1 := y412) (px2 := y422) (pk0 := k444) o457 f454 f456 f459 (by omega) (by omega) (c403) (c413) (c423) c405 c415 c425) pd29 ?_
  intro vq460 h461 S462 q460 zh461
  rcases q460 with q460 | q460 | q460 | q460 | q460 | q460 | q460 | q460 | q460 | q460
  ·obtain ⟨rfl, rfl, c463, c464, c465, rfl⟩ := q460
   refine Ow.Go.nr (S' := [a446, a396]) (st' := [(.ref r442)]) ?_
   refine Ow.astore (pc' := 71) (Ls' := #[.val (.int x0), .val (.int x1), .val (.int x2), .val (.int x3), .val (.int x4), .val (.int x5), .val (.int 3), .val (.ref a396), .val (.ref r442), .val (.ref r442), .unset, .unset]) B at_69 ?_
   refine Ow.aload (pc' := 73) B at_71 ?_
   refine Ow.iload (pc' := 75) B at_73 ?_
   refine Ow.Go.old (fun o466 => ?_)
   have f467 := V437.keep Kh440 Ow.nin0
   have f468 := f467.keep Kh447 Ow.nin0
   have f469 := f468.keep Kh452 (Ow.ninS (by omega) Ow.nin0)
   refine Ow.callStatic (pc' := 78) (W := 0) (k' := 13) (n' := 57) (argsL := [(.ref a396), (.int 3)]) (rest := []) B at_75 (w70 hw) (w71 hw) (w4 hw) (w72 hw) (con_strip_56 hw G GS (pa0 := a396) (px0 := y402) (px1 := y412) (px2 := y422) (px3 := y432) (pk0 := ka396) o466 f469 (by omega) (c463) (c464) (c465) c405 c415 c425 c435) pd30 ?_
   intro vq470 h471 S472 q470 zh471
   obtain ⟨rfl, rfl, rfl⟩ := q470
   refine Ow.Go.nr (S' := [a446, a396]) (st' := [(.int 0)]) ?_
   refine Ow.istore (pc' := 80) (Ls' := #[.val (.int x0), .val (.int x1), .val (.int x2), .val (.int x3), .val (.int x4), .val (.int x5), .val (.int 3), .val (.ref a396), .val (.ref r442), .val (.ref r442), .val (.int 0), .unset]) B at_78 ?_
   refine Ow.iload (pc' := 82) B at_80 ?_
   refine Ow.ifT (pc' := 160) B at_82 (by decide) ?_
   refine Ow.aload (pc' := 162) B at_160 ?_
   refine Ow.aload (pc' := 164) B at_162 ?_
   refine Ow.Go.old (fun o473 => ?_)
   refine Ow.callVirtual (pc' := 167) (W := 0) (k' := 13) (n' := 57) (argsL := [(.ref r442)]) (rest := []) (K := "java/lang/String") B at_164 (w73 hw) (w74 hw) (w76 hw) (w76 hw) (w75 hw) (w11 hw) (w77 hw) (f459).1 (con_equals_22 hw G GS (pa0 := r442) o473) pd31 ?_
   intro vq474 h475 S476 q474 zh475
   obtain ⟨rfl, rfl, rfl⟩ := q474
   refine Ow.Go.nr (S' := [a446, a396]) (st' := [(.int 1)]) ?_
   exact Ow.retI (S' := []) (t := .boolean) B at_167 (rfl)
  ·obtain ⟨rfl, Kh461, c477, c478, c479, c480, rfl⟩ := q460
   refine Ow.Go.nr (S' := [a446, a396]) (st' := [(.ref r442)]) ?_
   refine Ow.astore (pc' := 71) (Ls' := #[.val (.int x0), .val (.int x1), .val (.int x2), .val (.int x3), .val (.int x4), .val (.int x5), .val (.int 3), .val (.ref a396), .val (.ref r442), .val (.ref r442), .unset, .unset]) B at_69 ?_
   refine Ow.aload (pc' := 73) B at_71 ?_
   refine Ow.iload (pc' := 75) B at_73 ?_
   refine Ow.Go.old (fun o481 => ?_)
   have f482 := V437.keep Kh440 Ow.nin0
   have f483 := f482.keep Kh447 Ow.nin0
   have f484 := f483.keep Kh452 (Ow.ninS (by omega) Ow.nin0)
   have f485 := f484.keep Kh461 Ow.nin0
   refine Ow.callStatic (pc' := 78) (W := 0) (k' := 13) (n' := 57) (argsL := [(.ref a396), (.int 3)]) (rest := []) B at_75 (w70 hw) (w71 hw) (w4 hw) (w72 hw) (con_strip_57 hw G GS (pa0 := a396) (px0 := y402) (px1 := y412) (px2 := y422) (px3 := y432) (pk0 := ka396) o481 f485 (by omega) (c477) (c478) (c479) c405 c415 c425 c435) pd30 ?_
   intro vq486 h487 S488 q486 zh487
   obtain ⟨rfl, rfl, rfl⟩ := q486
   refine Ow.Go.nr (S' := [a446, a396]) (st' := [(.int 1)]) ?_
   refine Ow.istore (pc' := 80) (Ls' := #[.val (.int x0), .val (.int x1), .val (.int x2), .val (.int x3), .val (.int x4), .val (.int x5), .val (.int 3), .val (.ref a396), .val (.ref r442), .val (.ref r442), .val (.int 1), .unset]) B at_78 ?_
   refine Ow.iload (pc' := 82) B at_80 ?_
   refine Ow.ifF (pc' := 85) B at_82 (by decide) ?_
   refine Ow.aload (pc' := 87) B at_85 ?_
   refine Ow.iload (pc' := 89) B at_87 ?_
   refine Ow.iconst (pc' := 90) (x := 1) B at_89 ?_
   refine Ow.isub (pc' := 91) (z := 0) B at_90 ?_
   refine Ow.caload (pc' := 92) B at_91 f485 ⟨by decide, by decide⟩ rfl ?_
   refine Ow.bipush (pc' := 94) (x := 59) B at_92 ?_
   refine Ow.icmpF (pc' := 97) B at_94 (feq (fun q => c480 (Or.inl q))).1 ?_
   refine Ow.aload (pc' := 99) B at_97 ?_
   refine Ow.iload (pc' := 101) B at_99 ?_
   refine Ow.iconst (pc' := 102) (x := 1) B at_101 ?_
   refine Ow.isub (pc' := 103) (z := 0) B at_102 ?_
   refine Ow.caload (pc' := 104) B at_103 f485 ⟨by decide, by decide⟩ rfl ?_
   refine Ow.bipush (pc' := 106) (x := 44) B at_104 ?_
   refine Ow.icmpF (pc' := 109) B at_106 (feq (fun q => c480 (Or.inr (Or.inl q)))).1 ?_
   refine Ow.aload (pc' := 111) B at_109 ?_
   refine Ow.iload (pc' := 113) B at_111 ?_
   refine Ow.iconst (pc' := 114) (x := 1) B at_113 ?_
   refine Ow.isub (pc' := 115) (z := 0) B at_114 ?_
   refine Ow.caload (pc' := 116) B at_115 f485 ⟨by decide, by decide⟩ rfl ?_
   refine Ow.bipush (pc' := 118) (x := 58) B at_116 ?_
   refine Ow.icmpT (pc' := 160) B at_118 (feq (fun q => c480 (Or.inr (Or.inr q)))).2 ?_
   refine Ow.aload (pc' := 162) B at_160 ?_
   refine Ow.aload (pc' := 164) B at_162 ?_
   refine Ow.Go.old (fun o489 => ?_)
   have f490 := f459.keep Kh461 Ow.nin0 Ow.nin0
   refine Ow.callVirtual (pc' := 167) (W := 0) (k' := 13) (n' := 57) (argsL := [(.ref r442)]) (rest := []) (K := "java/lang/String") B at_164 (w73 hw) (w74 hw) (w76 hw) (w76 hw) (w75 hw) (w11 hw) (w77 hw) (f490).1 (con_equals_22 hw G GS (pa0 := r442) o489) pd31 ?_
   intro vq491 h492 S493 q491 zh492
   obtain ⟨rfl, rfl, rfl⟩ := q491
   refine Ow.Go.nr (S' := [a446, a396]) (st' := [(.int 1)]) ?_
   exact Ow.retI (S' := []) (t := .boolean) B at_167 (rfl)
  ·obtain ⟨r494, r495, k496, rfl, Kh461, c497, c498, c499, c500, f501, rfl⟩ := q460
   have lr495 : (r495 : Nat) < h461.size := f501.ltt
   have lr494 : (r494 : Nat) < h461.size := f501.lt
   refine Ow.Go.nr (S' := [a446, a396]) (st' := [(.ref r494)]) ?_
   refine Ow.astore (pc' := 71) (Ls' := #[.val (.int x0), .val (.int x1), .val (.int x2), .val (.int x3), .val (.int x4), .val (.int x5), .val (.int 3), .val (.ref a396), .val (.ref r442), .val (.ref r494), .unset, .unset]) B at_69 ?_
   refine Ow.aload (pc' := 73) B at_71 ?_
   refine Ow.iload (pc' := 75) B at_73 ?_
   refine Ow.Go.old (fun o502 => ?_)
   have f503 := V437.keep Kh440 Ow.nin0
   have f504 := f503.keep Kh447 Ow.nin0
   have f505 := f504.keep Kh452 (Ow.ninS (by omega) Ow.nin0)
   have f506 := f505.keep Kh461 Ow.nin0
   refine Ow.callStatic (pc' := 78) (W := 0) (k' := 13) (n' := 57) (argsL := [(.ref a396), (.int 3)]) (rest := []) B at_75 (w70 hw) (w71 hw) (w4 hw) (w72 hw) (con_strip_57 hw G GS (pa0 := a396) (px0 := y402) (px1 := y412) (px2 := y422) (px3 := y432) (pk0 := ka396) o502 f506 (by omega) (c497) (c498) (c499) c405 c415 c425 c435) pd30 ?_
   intro vq507 h508 S509 q507 zh508
   obtain ⟨rfl, rfl, rfl⟩ := q507
   refine Ow.Go.nr (S' := [a446, a396]) (st' := [(.int 1)]) ?_
   refine Ow.istore (pc' := 80) (Ls' := #[.val (.int x0), .val (.int x1), .val (.int x2), .val (.int x3), .val (.int x4), .val (.int x5), .val (.int 3), .val (.ref a396), .val (.ref r442), .val (.ref r494), .val (.int 1), .unset]) B at_78 ?_
   refine Ow.iload (pc' := 82) B at_80 ?_
   refine Ow.ifF (pc' := 85) B at_82 (by decide) ?_
   refine Ow.Go.join (α := Unit) (pc1 := 121) (fun _ => #[.val (.int x0), .val (.int x1), .val (.int x2), .val (.int x3), .val (.int x4), .val (.int x5), .val (.int 3), .val (.ref a396), .val (.ref r442), .val (.ref r494), .val (.int 1), .unset]) (fun _ => []) ?_ ?_
   ·intro _
    refine Ow.aload (pc' := 123) B at_121 ?_
    refine Ow.iload (pc' := 125) B at_123 ?_
    refine Ow.iconst (pc' := 126) (x := 1) B at_125 ?_
    refine Ow.isub (pc' := 127) (z := 0) B at_126 ?_
    refine Ow.Go.old (fun o510 => ?_)
    refine Ow.callStatic (pc' := 130) (W := 0) (k' := 13) (n' := 57) (argsL := [(.ref a396), (.int 0)]) (rest := []) B at_127 (w70 hw) (w71 hw) (w4 hw) (w72 hw) (con_strip_21 hw G GS (pa0 := a396) o510) pd30 ?_
    intro vq511 h512 S513 q511 zh512
    obtain ⟨rfl, rfl, rfl⟩ := q511
    refine Ow.Go.nr (S' := [a446, a396]) (st' := [(.int 0)]) ?_
    refine Ow.istore (pc' := 132) (Ls' := #[.val (.int x0), .val (.int x1), .val (.int x2), .val (.int x3), .val (.int x4), .val (.int x5), .val (.int 3), .val (.ref a396), .val (.ref r442), .val (.ref r494), .val (.int 1), .val (.int 0)]) B at_130 ?_
    refine Ow.aload (pc' := 134) B at_132 ?_
    refine Ow.Go.old (fun o514 => ?_)
    refine Ow.callVirtual (pc' := 137) (W := 0) (k' := 13) (n' := 57) (argsL := []) (rest := []) (K := "java/lang/String") B at_134 (w172 hw) (w52 hw) (w54 hw) (w54 hw) (w53 hw) (w11 hw) (w55 hw) (f501).1 (gLen hw G GS o514 f501 (by simp)) pd21 ?_
    intro vq515 h516 S517 q515 zh516
    obtain ⟨rfl, rfl, rfl⟩ := q515
    refine Ow.Go.nr (S' := [a446, a396]) (st' := [(.int 0)]) ?_
    refine Ow.iload (pc' := 139) B at_137 ?_
    refine Ow.icmpF (pc' := 142) B at_139 (by decide) ?_
    refine Ow.aload (pc' := 144) B at_142 ?_
    refine Ow.aload (pc' := 146) B at_144 ?_
    refine Ow.iload (pc' := 148) B at_146 ?_
    refine Ow.Go.old (fun o518 => ?_)
    refine Ow.callStatic (pc' := 151) (W := 0) (k' := 13) (n' := 57) (argsL := [(.ref r494), (.ref a396), (.int 0)]) (rest := []) B at_148 (w173 hw) (w174 hw) (w4 hw) (w175 hw) (con_prefixEq_37 hw G GS (pa0 := r494) (pa1 := a396) o518) pd35 ?_
    intro vq519 h520 S521 q519 zh520
    obtain ⟨rfl, rfl, rfl⟩ := q519
    refine Ow.Go.nr (S' := [a446, a396]) (st' := [(.int 1)]) ?_
    refine Ow.ifF (pc' := 154) B at_151 (by decide) ?_
    refine Ow.iconst (pc' := 155) (x := 1) B at_154 ?_
    refine Ow.goto (pc' := 159) B at_155 ?_
    exact Ow.retI (S' := []) (t := .boolean) B at_159 (rfl)
   ·intro J522
    rcases c500 with c523 | c523 | c523
    ·refine Ow.aload (pc' := 87) B at_85 ?_
     refine Ow.iload (pc' := 89) B at_87 ?_
     refine Ow.iconst (pc' := 90) (x := 1) B at_89 ?_
     refine Ow.isub (pc' := 91) (z := 0) B at_90 ?_
     refine Ow.caload (pc' := 92) B at_91 f506 ⟨by decide, by decide⟩ rfl ?_
     refine Ow.bipush (pc' := 94) (x := 59) B at_92 ?_
     refine Ow.icmpT (pc' := 121) B at_94 (teq (c523)).1 ?_
     exact J522 ()
    ·refine Ow.aload (pc' := 87) B at_85 ?_
     refine Ow.iload (pc' := 89) B at_87 ?_
     refine Ow.iconst (pc' := 90) (x := 1) B at_89 ?_
     refine Ow.isub (pc' := 91) (z := 0) B at_90 ?_
     refine Ow.caload (pc' := 92) B at_91 f506 ⟨by decide, by decide⟩ rfl ?_
     refine Ow.bipush (pc' := 94) (x := 59) B at_92 ?_
     refine Ow.icmpF (pc' := 97) B at_94 (feq (by rw [c523]; decide)).1 ?_
     refine Ow.aload (pc' := 99) B at_97 ?_
     refine Ow.iload (pc' := 101) B at_99 ?_
     refine Ow.iconst (pc' := 102) (x := 1) B at_101 ?_
     refine Ow.isub (pc' := 103) (z := 0) B at_102 ?_
     refine Ow.caload (pc' := 104) B at_103 f506 ⟨by decide, by decide⟩ rfl ?_
     refine Ow.bipush (pc' := 106) (x := 44) B at_104 ?_
     refine Ow.icmpT (pc' := 121) B at_106 (teq (c523)).1 ?_
     exact J522 ()
    ·refine Ow.aload (pc' := 87) B at_85 ?_
     refine Ow.iload (pc' := 89) B at_87 ?_
     refine Ow.iconst (pc' := 90) (x := 1) B at_89 ?_
     refine Ow.isub (pc' := 91) (z := 0) B at_90 ?_
     refine Ow.caload (pc' := 92) B at_91 f506 ⟨by decide, by decide⟩ rfl ?_
     refine Ow.bipush (pc' := 94) (x := 59) B at_92 ?_
     refine Ow.icmpF (pc' := 97) B at_94 (feq (by rw [c523]; decide)).1 ?_
     refine Ow.aload (pc' := 99) B at_97 ?_
     refine Ow.iload (pc' := 101) B at_99 ?_
     refine Ow.iconst (pc' := 102) (x := 1) B at_101 ?_
     refine Ow.isub (pc' := 103) (z := 0) B at_102 ?_
     refine Ow.caload (pc' := 104) B at_103 f506 ⟨by decide, by decide⟩ rfl ?_
     refine Ow.bipush (pc' := 106) (x := 44) B at_104 ?_
     refine Ow.icmpF (pc' := 109) B at_106 (feq (by rw [c523]; decide)).1 ?_
     refine Ow.aload (pc' := 111) B at_109 ?_
     refine Ow.iload (pc' := 113) B at_111 ?_
     refine Ow.iconst (pc' := 114) (x := 1) B at_113 ?_
     refine Ow.isub (pc' := 115) (z := 0) B at_114 ?_
     refine Ow.caload (pc' := 116) B at_115 f506 ⟨by decide, by decide⟩ rfl ?_
     refine Ow.bipush (pc' := 118) (x := 58) B at_116 ?_
     refine Ow.icmpF (pc' := 121) B at_118 (teq (c523)).2 ?_
     exact J522 ()
  ·obtain ⟨rfl, Kh461, c524, c525, c526, rfl⟩ := q460
   refine Ow.Go.nr (S' := [a446, a396]) (st' := [(.ref r442)]) ?_
   refine Ow.astore (pc' := 71) (Ls' := #[.val (.int x0), .val (.int x1), .val (.int x2), .val (.int x3), .val (.int x4), .val (.int x5), .val (.int 3), .val (.ref a396), .val (.ref r442), .val (.ref r442), .unset, .unset]) B at_69 ?_
   refine Ow.aload (pc' := 73) B at_71 ?_
   refine Ow.iload (pc' := 75) B at_73 ?_
   refine Ow.Go.old (fun o527 => ?_)
   have f528 := V437.keep Kh440 Ow.nin0
   have f529 := f528.keep Kh447 Ow.nin0
   have f530 := f529.keep Kh452 (Ow.ninS (by omega) Ow.nin0)
   have f531 := f530.keep Kh461 Ow.nin0
   refine Ow.callStatic (pc' := 78) (W := 0) (k' := 13) (n' := 57) (argsL := [(.ref a396), (.int 3)]) (rest := []) B at_75 (w70 hw) (w71 hw) (w4 hw) (w72 hw) (con_strip_58 hw G GS (pa0 := a396) (px0 := y402) (px1 := y412) (px2 := y422) (px3 := y432) (pk0 := ka396) o527 f531 (by omega) (c524) (c525) c405 c415 c425 c435) pd30 ?_
   intro vq532 h533 S534 q532 zh533
   obtain ⟨rfl, rfl, rfl⟩ := q532
   refine Ow.Go.nr (S' := [a446, a396]) (st' := [(.int 2)]) ?_
   refine Ow.istore (pc' := 80) (Ls' := #[.val (.int x0), .val (.int x1), .val (.int x2), .val (.int x3), .val (.int x4), .val (.int x5), .val (.int 3), .val (.ref a396), .val (.ref r442), .val (.ref r442), .val (.int 2), .unset]) B at_78 ?_
   refine Ow.iload (pc' := 82) B at_80 ?_
   refine Ow.ifF (pc' := 85) B at_82 (by decide) ?_
   refine Ow.aload (pc' := 87) B at_85 ?_
   refine Ow.iload (pc' := 89) B at_87 ?_
   refine Ow.iconst (pc' := 90) (x := 1) B at_89 ?_
   refine Ow.isub (pc' := 91) (z := 1) B at_90 ?_
   refine Ow.caload (pc' := 92) B at_91 f531 ⟨by decide, by decide⟩ rfl ?_
   refine Ow.bipush (pc' := 94) (x := 59) B at_92 ?_
   refine Ow.icmpF (pc' := 97) B at_94 (feq (fun q => c526 (Or.inl q))).1 ?_
   refine Ow.aload (pc' := 99) B at_97 ?_
   refine Ow.iload (pc' := 101) B at_99 ?_
   refine Ow.iconst (pc' := 102) (x := 1) B at_101 ?_
   refine Ow.isub (pc' := 103) (z := 1) B at_102 ?_
   refine Ow.caload (pc' := 104) B at_103 f531 ⟨by decide, by decide⟩ rfl ?_
   refine Ow.bipush (pc' := 106) (x := 44) B at_104 ?_
   refine Ow.icmpF (pc' := 109) B at_106 (feq (fun q => c526 (Or.inr (Or.inl q)))).1 ?_
   refine Ow.aload (pc' := 111) B at_109 ?_
   refine Ow.iload (pc' := 113) B at_111 ?_
   refine Ow.iconst (pc' := 114) (x := 1) B at_113 ?_
   refine Ow.isub (pc' := 115) (z := 1) B at_114 ?_
   refine Ow.caload (pc' := 116) B at_115 f531 ⟨by decide, by decide⟩ rfl ?_
   refine Ow.bipush (pc' := 118) (x := 58) B at_116 ?_
   refine Ow.icmpT (pc' := 160) B at_118 (feq (fun q => c526 (Or.inr (Or.inr q)))).2 ?_
   refine Ow.aload (pc' := 162) B at_160 ?_
   refine Ow.aload (pc' := 164) B at_162 ?_
   refine Ow.Go.old (fun o535 => ?_)
   have f536 := f459.keep Kh461 Ow.nin0 Ow.nin0
   refine Ow.callVirtual (pc' := 167) (W := 0) (k' := 13) (n' := 57) (argsL := [(.ref r442)]) (rest := []) (K := "java/lang/String") B at_164 (w73 hw) (w74 hw) (w76 hw) (w76 hw) (w75 hw) (w11 hw) (w77 hw) (f536).1 (con_equals_22 hw G GS (pa0 := r442) o535) pd31 ?_
   intro vq537 h538 S539 q537 zh538
   obtain ⟨rfl, rfl, rfl⟩ := q537
   refine Ow.Go.nr (S' := [a446, a396]) (st' := [(.int 1)]) ?_
   exact Ow.retI (S' := []) (t := .boolean) B at_167 (rfl)
  ·obtain ⟨r540, r541, k542, rfl, Kh461, c543, c544, c545, c546, f547, rfl⟩ := q460
   have lr541 : (r541 : Nat) < h461.size := f547.ltt
   have lr540 : (r540 : Nat) < h461.size := f547.lt
   refine Ow.Go.nr (S' := [a446, a396]) (st' := [(.ref r540)]) ?_
   refine Ow.astore (pc' := 71) (Ls' := #[.val (.int x0), .val (.int x1), .val (.int x2), .val (.int x3), .val (.int x4), .val (.int x5), .val (.int 3), .val (.ref a396), .val (.ref r442), .val (.ref r540), .unset, .unset]) B at_69 ?_
   refine Ow.aload (pc' := 73) B at_71 ?_
   refine Ow.iload (pc' := 75) B at_73 ?_
   refine Ow.Go.old (fun o548 => ?_)
   have f549 := V437.keep Kh440 Ow.nin0
   have f550 := f549.keep Kh447 Ow.nin0
   have f551 := f550.keep Kh452 (Ow.ninS (by omega) Ow.nin0)
   have f552 := f551.keep Kh461 Ow.nin0
   refine Ow.callStatic (pc' := 78) (W := 0) (k' := 13) (n' := 57) (argsL := [(.ref a396), (.int 3)]) (rest := []) B at_75 (w70 hw) (w71 hw) (w4 hw) (w72 hw) (con_strip_58 hw G GS (pa0 := a396) (px0 := y402) (px1 := y412) (px2 := y422) (px3 := y432) (pk0 := ka396) o548 f552 (by omega) (c543) (c544) c405 c415 c425 c435) pd30 ?_
   intro vq553 h554 S555 q553 zh554
   obtain ⟨rfl, rfl, rfl⟩ := q553
   refine Ow.Go.nr (S' := [a446, a396]) (st' := [(.int 2)]) ?_
   refine Ow.istore (pc' := 80) (Ls' := #[.val (.int x0), .val (.int x1), .val (.int x2), .val (.int x3), .val (.int x4), .val (.int x5), .val (.int 3), .val (.ref a396), .val (.ref r442), .val (.ref r540), .val (.int 2), .unset]) B at_78 ?_
   refine Ow.iload (pc' := 82) B at_80 ?_
   refine Ow.ifF (pc' := 85) B at_82 (by decide) ?_
   refine Ow.Go.join (α := Unit) (pc1 := 121) (fun _ => #[.val (.int x0), .val (.int x1), .val (.int x2), .val (.int x3), .val (.int x4), .val (.int x5), .val (.int 3), .val (.ref a396), .val (.ref r442), .val (.ref r540), .val (.int 2), .unset]) (fun _ => []) ?_ ?_
   ·intro _
    refine Ow.aload (pc' := 123) B at_121 ?_
    refine Ow.iload (pc' := 125) B at_123 ?_
    refine Ow.iconst (pc' := 126) (x := 1) B at_125 ?_
    refine Ow.isub (pc' := 127) (z := 1) B at_126 ?_
    refine Ow.Go.old (fun o556 => ?_)
    refine Ow.callStatic (pc' := 130) (W := 0) (k' := 13) (n' := 57) (argsL := [(.ref a396), (.int 1)]) (rest := []) B at_127 (w70 hw) (w71 hw) (w4 hw) (w72 hw) (con_strip_35 hw G GS (pa0 := a396) (px0 := y402) (px1 := y412) (px2 := y422) (px3 := y432) (pk0 := ka396) o556 f552 (by omega) (c546) c405 c415 c425 c435) pd30 ?_
    intro vq557 h558 S559 q557 zh558
    obtain ⟨rfl, rfl, rfl⟩ := q557
    refine Ow.Go.nr (S' := [a446, a396]) (st' := [(.int 0)]) ?_
    refine Ow.istore (pc' := 132) (Ls' := #[.val (.int x0), .val (.int x1), .val (.int x2), .val (.int x3), .val (.int x4), .val (.int x5), .val (.int 3), .val (.ref a396), .val (.ref r442), .val (.ref r540), .val (.int 2), .val (.int 0)]) B at_130 ?_
    refine Ow.aload (pc' := 134) B at_132 ?_
    refine Ow.Go.old (fun o560 => ?_)
    refine Ow.callVirtual (pc' := 137) (W := 0) (k' := 13) (n' := 57) (argsL := []) (rest := []) (K := "java/lang/String") B at_134 (w172 hw) (w52 hw) (w54 hw) (w54 hw) (w53 hw) (w11 hw) (w55 hw) (f547).1 (gLen hw G GS o560 f547 (by simp)) pd21 ?_
    intro vq561 h562 S563 q561 zh562
    obtain ⟨rfl, rfl, rfl⟩ := q561
    refine Ow.Go.nr (S' := [a446, a396]) (st' := [(.int 0)]) ?_
    refine Ow.iload (pc' := 139) B at_137 ?_
    refine Ow.icmpF (pc' := 142) B at_139 (by decide) ?_
    refine Ow.aload (pc' := 144) B at_142 ?_
    refine Ow.aload (pc' := 146) B at_144 ?_
    refine Ow.iload (pc' := 148) B at_146 ?_
    refine Ow.Go.old (fun o564 => ?_)
    refine Ow.callStatic (pc' := 151) (W := 0) (k' := 13) (n' := 57) (argsL := [(.ref r540), (.ref a396), (.int 0)]) (rest := []) B at_148 (w173 hw) (w174 hw) (w4 hw) (w175 hw) (con_prefixEq_37 hw G GS (pa0 := r540) (pa1 := a396) o564) pd35 ?_
    intro vq565 h566 S567 q565 zh566
    obtain ⟨rfl, rfl, rfl⟩ := q565
    refine Ow.Go.nr (S' := [a446, a396]) (st' := [(.int 1)]) ?_
    refine Ow.ifF (pc' := 154) B at_151 (by decide) ?_
    refine Ow.iconst (pc' := 155) (x := 1) B at_154 ?_
    refine Ow.goto (pc' := 159) B at_155 ?_
    exact Ow.retI (S' := []) (t := .boolean) B at_159 (rfl)
   ·intro J568
    rcases c545 with c569 | c569 | c569
    ·refine Ow.aload (pc' := 87) B at_85 ?_
     refine Ow.iload (pc' := 89) B at_87 ?_
     refine Ow.iconst (pc' := 90) (x := 1) B at_89 ?_
     refine Ow.isub (pc' := 91) (z := 1) B at_90 ?_
     refine Ow.caload (pc' := 92) B at_91 f552 ⟨by decide, by decide⟩ rfl ?_
     refine Ow.bipush (pc' := 94) (x := 59) B at_92 ?_
     refine Ow.icmpT (pc' := 121) B at_94 (teq (c569)).1 ?_
     exact J568 ()
    ·refine Ow.aload (pc' := 87) B at_85 ?_
     refine Ow.iload (pc' := 89) B at_87 ?_
     refine Ow.iconst (pc' := 90) (x := 1) B at_89 ?_
     refine Ow.isub (pc' := 91) (z := 1) B at_90 ?_
     refine Ow.caload (pc' := 92) B at_91 f552 ⟨by decide, by decide⟩ rfl ?_
     refine Ow.bipush (pc' := 94) (x := 59) B at_92 ?_
     refine Ow.icmpF (pc' := 97) B at_94 (feq (by rw [c569]; decide)).1 ?_
     refine Ow.aload (pc' := 99) B at_97 ?_
     refine Ow.iload (pc' := 101) B at_99 ?_
     refine Ow.iconst (pc' := 102) (x := 1) B at_101 ?_
     refine Ow.isub (pc' := 103) (z := 1) B at_102 ?_
     refine Ow.caload (pc' := 104) B at_103 f552 ⟨by decide, by decide⟩ rfl ?_
     refine Ow.bipush (pc' := 106) (x := 44) B at_104 ?_
     refine Ow.icmpT (pc' := 121) B at_106 (teq (c569)).1 ?_
     exact J568 ()
    ·refine Ow.aload (pc' := 87) B at_85 ?_
     refine Ow.iload (pc' := 89) B at_87 ?_
     refine Ow.iconst (pc' := 90) (x := 1) B at_89 ?_
     refine Ow.isub (pc' := 91) (z := 1) B at_90 ?_
     refine Ow.caload (pc' := 92) B at_91 f552 ⟨by decide, by decide⟩ rfl ?_
     refine Ow.bipush (pc' := 94) (x := 59) B at_92 ?_
     refine Ow.icmpF (pc' := 97) B at_94 (feq (by rw [c569]; decide)).1 ?_
     refine Ow.aload (pc' := 99) B at_97 ?_
     refine Ow.iload (pc' := 101) B at_99 ?_
     refine Ow.iconst (pc' := 102) (x := 1) B at_101 ?_
     refine Ow.isub (pc' := 103) (z := 1) B at_102 ?_
     refine Ow.caload (pc' := 104) B at_103 f552 ⟨by decide, by decide⟩ rfl ?_
     refine Ow.bipush (pc' := 106) (x := 44) B at_104 ?_
     refine Ow.icmpF (pc' := 109) B at_106 (feq (by rw [c569]; decide)).1 ?_
     refine Ow.aload (pc' := 111) B at_109 ?_
     refine Ow.iload (pc' := 113) B at_111 ?_
     refine Ow.iconst (pc' := 114) (x := 1) B at_113 ?_
     refine Ow.isub (pc' := 115) (z := 1) B at_114 ?_
     refine Ow.caload (pc' := 116) B at_115 f552 ⟨by decide, by decide⟩ rfl ?_
     refine Ow.bipush (pc' := 118) (x := 58) B at_116 ?_
     refine Ow.icmpF (pc' := 121) B at_118 (teq (c569)).2 ?_
     exact J568 ()
  ·obtain ⟨r570, r571, k572, rfl, Kh461, c573, c574, c575, c576, f577, rfl⟩ := q460
   have lr571 : (r571 : Nat) < h461.size := f577.ltt
   have lr570 : (r570 : Nat) < h461.size := f577.lt
   refine Ow.Go.nr (S' := [a446, a396]) (st' := [(.ref r570)]) ?_
   refine Ow.astore (pc' := 71) (Ls' := #[.val (.int x0), .val (.int x1), .val (.int x2), .val (.int x3), .val (.int x4), .val (.int x5), .val (.int 3), .val (.ref a396), .val (.ref r442), .val (.ref r570), .unset, .unset]) B at_69 ?_
   refine Ow.aload (pc' := 73) B at_71 ?_
   refine Ow.iload (pc' := 75) B at_73 ?_
   refine Ow.Go.old (fun o578 => ?_)
   have f579 := V437.keep Kh440 Ow.nin0
   have f580 := f579.keep Kh447 Ow.nin0
   have f581 := f580.keep Kh452 (Ow.ninS (by omega) Ow.nin0)
   have f582 := f581.keep Kh461 Ow.nin0
   refine Ow.callStatic (pc' := 78) (W := 0) (k' := 13) (n' := 57) (argsL := [(.ref a396), (.int 3)]) (rest := []) B at_75 (w70 hw) (w71 hw) (w4 hw) (w72 hw) (con_strip_58 hw G GS (pa0 := a396) (px0 := y402) (px1 := y412) (px2 := y422) (px3 := y432) (pk0 := ka396) o578 f582 (by omega) (c573) (c574) c405 c415 c425 c435) pd30 ?_
   intro vq583 h584 S585 q583 zh584
   obtain ⟨rfl, rfl, rfl⟩ := q583
   refine Ow.Go.nr (S' := [a446, a396]) (st' := [(.int 2)]) ?_
   refine Ow.istore (pc' := 80) (Ls' := #[.val (.int x0), .val (.int x1), .val (.int x2), .val (.int x3), .val (.int x4), .val (.int x5), .val (.int 3), .val (.ref a396), .val (.ref r442), .val (.ref r570), .val (.int 2), .unset]) B at_78 ?_
   refine Ow.iload (pc' := 82) B at_80 ?_
   refine Ow.ifF (pc' := 85) B at_82 (by decide) ?_
   refine Ow.Go.join (α := Unit) (pc1 := 121) (fun _ => #[.val (.int x0), .val (.int x1), .val (.int x2), .val (.int x3), .val (.int x4), .val (.int x5), .val (.int 3), .val (.ref a396), .val (.ref r442), .val (.ref r570), .val (.int 2), .unset]) (fun _ => []) ?_ ?_
   ·intro _
    refine Ow.aload (pc' := 123) B at_121 ?_
    refine Ow.iload (pc' := 125) B at_123 ?_
    refine Ow.iconst (pc' := 126) (x := 1) B at_125 ?_
    refine Ow.isub (pc' := 127) (z := 1) B at_126 ?_
    refine Ow.Go.old (fun o586 => ?_)
    refine Ow.callStatic (pc' := 130) (W := 0) (k' := 13) (n' := 57) (argsL := [(.ref a396), (.int 1)]) (rest := []) B at_127 (w70 hw) (w71 hw) (w4 hw) (w72 hw) (con_strip_36 hw G GS (pa0 := a396) (px0 := y402) (px1 := y412) (px2 := y422) (px3 := y432) (pk0 := ka396) o586 f582 (by omega) (c576) c405 c415 c425 c435) pd30 ?_
    intro vq587 h588 S589 q587 zh588
    obtain ⟨rfl, rfl, rfl⟩ := q587
    refine Ow.Go.nr (S' := [a446, a396]) (st' := [(.int 1)]) ?_
    refine Ow.istore (pc' := 132) (Ls' := #[.val (.int x0), .val (.int x1), .val (.int x2), .val (.int x3), .val (.int x4), .val (.int x5), .val (.int 3), .val (.ref a396), .val (.ref r442), .val (.ref r570), .val (.int 2), .val (.int 1)]) B at_130 ?_
    refine Ow.aload (pc' := 134) B at_132 ?_
    refine Ow.Go.old (fun o590 => ?_)
    refine Ow.callVirtual (pc' := 137) (W := 0) (k' := 13) (n' := 57) (argsL := []) (rest := []) (K := "java/lang/String") B at_134 (w172 hw) (w52 hw) (w54 hw) (w54 hw) (w53 hw) (w11 hw) (w55 hw) (f577).1 (gLen hw G GS o590 f577 (by simp)) pd21 ?_
    intro vq591 h592 S593 q591 zh592
    obtain ⟨rfl, rfl, rfl⟩ := q591
    refine Ow.Go.nr (S' := [a446, a396]) (st' := [(.int 1)]) ?_
    refine Ow.iload (pc' := 139) B at_137 ?_
    refine Ow.icmpF (pc' := 142) B at_139 (by decide) ?_
    refine Ow.aload (pc' := 144) B at_142 ?_
    refine Ow.aload (pc' := 146) B at_144 ?_
    refine Ow.iload (pc' := 148) B at_146 ?_
    refine Ow.Go.old (fun o594 => ?_)
    refine Ow.callStatic (pc' := 151) (W := 0) (k' := 13) (n' := 57) (argsL := [(.ref r570), (.ref a396), (.int 1)]) (rest := []) B at_148 (w173 hw) (w174 hw) (w4 hw) (w175 hw) (con_prefixEq_47 hw G GS (pa0 := r570) (pa1 := a396) (pa2 := r571) (px0 := y402) (px1 := y412) (px2 := y422) (px3 := y432) (pk0 := k572) (pk1 := ka396) o594 f577 f582 (by omega) c405 c415 c425 c435) pd35 ?_
    intro vq595 h596 S597 q595 zh596
    obtain ⟨rfl, rfl, rfl⟩ := q595
    refine Ow.Go.nr (S' := [a446, a396]) (st' := [(.int 1)]) ?_
    refine Ow.ifF (pc' := 154) B at_151 (by decide) ?_
    refine Ow.iconst (pc' := 155) (x := 1) B at_154 ?_
    refine Ow.goto (pc' := 159) B at_155 ?_
    exact Ow.retI (S' := []) (t := .boolean) B at_159 (rfl)
   ·intro J598
    rcases c575 with c599 | c599 | c599
    ·refine Ow.aload (pc' := 87) B at_85 ?_
     refine Ow.iload (pc' := 89) B at_87 ?_
     refine Ow.iconst (pc' := 90) (x := 1) B at_89 ?_
     refine Ow.isub (pc' := 91) (z := 1) B at_90 ?_
     refine Ow.caload (pc' := 92) B at_91 f582 ⟨by decide, by decide⟩ rfl ?_
     refine Ow.bipush (pc' := 94) (x := 59) B at_92 ?_
     refine Ow.icmpT (pc' := 121) B at_94 (teq (c599)).1 ?_
     exact J598 ()
    ·refine Ow.aload (pc' := 87) B at_85 ?_
     refine Ow.iload (pc' := 89) B at_87 ?_
     refine Ow.iconst (pc' := 90) (x := 1) B at_89 ?_
     refine Ow.isub (pc' := 91) (z := 1) B at_90 ?_
     refine Ow.caload (pc' := 92) B at_91 f582 ⟨by decide, by decide⟩ rfl ?_
     refine Ow.bipush (pc' := 94) (x := 59) B at_92 ?_
     refine Ow.icmpF (pc' := 97) B at_94 (feq (by rw [c599]; decide)).1 ?_
     refine Ow.aload (pc' := 99) B at_97 ?_
     refine Ow.iload (pc' := 101) B at_99 ?_
     refine Ow.iconst (pc' := 102) (x := 1) B at_101 ?_
     refine Ow.isub (pc' := 103) (z := 1) B at_102 ?_
     refine Ow.caload (pc' := 104) B at_103 f582 ⟨by decide, by decide⟩ rfl ?_
     refine Ow.bipush (pc' := 106) (x := 44) B at_104 ?_
     refine Ow.icmpT (pc' := 121) B at_106 (teq (c599)).1 ?_
     exact J598 ()
    ·refine Ow.aload (pc' := 87) B at_85 ?_
     refine Ow.iload (pc' := 89) B at_87 ?_
     refine Ow.iconst (pc' := 90) (x := 1) B at_89 ?_
     refine Ow.isub (pc' := 91) (z := 1) B at_90 ?_
     refine Ow.caload (pc' := 92) B at_91 f582 ⟨by decide, by decide⟩ rfl ?_
     refine Ow.bipush (pc' := 94) (x := 59) B at_92 ?_
     refine Ow.icmpF (pc' := 97) B at_94 (feq (by rw [c599]; decide)).1 ?_
     refine Ow.aload (pc' := 99) B at_97 ?_
     refine Ow.iload (pc' := 101) B at_99 ?_
     refine Ow.iconst (pc' := 102) (x := 1) B at_101 ?_
     refine Ow.isub (pc' := 103) (z := 1) B at_102 ?_
     refine Ow.caload (pc' := 104) B at_103 f582 ⟨by decide, by decide⟩ rfl ?_
     refine Ow.bipush (pc' := 106) (x := 44) B at_104 ?_
     refine Ow.icmpF (pc' := 109) B at_106 (feq (by rw [c599]; decide)).1 ?_
     refine Ow.aload (pc' := 111) B at_109 ?_
     refine Ow.iload (pc' := 113) B at_111 ?_
     refine Ow.iconst (pc' := 114) (x := 1) B at_113 ?_
     refine Ow.isub (pc' := 115) (z := 1) B at_114 ?_
     refine Ow.caload (pc' := 116) B at_115 f582 ⟨by decide, by decide⟩ rfl ?_
     refine Ow.bipush (pc' := 118) (x := 58) B at_116 ?_
     refine Ow.icmpF (pc' := 121) B at_118 (teq (c599)).2 ?_
     exact J598 ()
  ·obtain ⟨rfl, Kh461, c600, c601, rfl⟩ := q460
   refine Ow.Go.nr (S' := [a446, a396]) (st' := [(.ref r442)]) ?_
   refine Ow.astore (pc' := 71) (Ls' := #[.val (.int x0), .val (.int x1), .val (.int x2), .val (.int x3), .val (.int x4), .val (.int x5), .val (.int 3), .val (.ref a396), .val (.ref r442), .val (.ref r442), .unset, .unset]) B at_69 ?_
   refine Ow.aload (pc' := 73) B at_71 ?_
   refine Ow.iload (pc' := 75) B at_73 ?_
   refine Ow.Go.old (fun o602 => ?_)
   have f603 := V437.keep Kh440 Ow.nin0
   have f604 := f603.keep Kh447 Ow.nin0
   have f605 := f604.keep Kh452 (Ow.ninS (by omega) Ow.nin0)
   have f606 := f605.keep Kh461 Ow.nin0
   refine Ow.callStatic (pc' := 78) (W := 0) (k' := 13) (n' := 57) (argsL := [(.ref a396), (.int 3)]) (rest := []) B at_75 (w70 hw) (w71 hw) (w4 hw) (w72 hw) (con_strip_59 hw G GS (pa0 := a396) (px0 := y402) (px1 := y412) (px2 := y422) (px3 := y432) (pk0 := ka396) o602 f606 (by omega) (c600) c405 c415 c425 c435) pd30 ?_
   intro vq607 h608 S609 q607 zh608
   obtain ⟨rfl, rfl, rfl⟩ := q607
   refine Ow.Go.nr (S' := [a446, a396]) (st' := [(.int 3)]) ?_
   refine Ow.istore (pc' := 80) (Ls' := #[.val (.int x0), .val (.int x1), .val (.int x2), .val (.int x3), .val (.int x4), .val (.int x5), .val (.int 3), .val (.ref a396), .val (.ref r442), .val (.ref r442), .val (.int 3), .unset]) B at_78 ?_
   refine Ow.iload (pc' := 82) B at_80 ?_
   refine Ow.ifF (pc' := 85) B at_82 (by decide) ?_
   refine Ow.aload (pc' := 87) B at_85 ?_
   refine Ow.iload (pc' := 89) B at_87 ?_
   refine Ow.iconst (pc' := 90) (x := 1) B at_89 ?_
   refine Ow.isub (pc' := 91) (z := 2) B at_90 ?_
   refine Ow.caload (pc' := 92) B at_91 f606 ⟨by decide, by decide⟩ rfl ?_
   refine Ow.bipush (pc' := 94) (x := 59) B at_92 ?_
   refine Ow.icmpF (pc' := 97) B at_94 (feq (fun q => c601 (Or.inl q))).1 ?_
   refine Ow.aload (pc' := 99) B at_97 ?_
   refine Ow.iload (pc' := 101) B at_99 ?_
   refine Ow.iconst (pc' := 102) (x := 1) B at_101 ?_
   refine Ow.isub (pc' := 103) (z := 2) B at_102 ?_
   refine Ow.caload (pc' := 104) B at_103 f606 ⟨by decide, by decide⟩ rfl ?_
   refine Ow.bipush (pc' := 106) (x := 44) B at_104 ?_
   refine Ow.icmpF (pc' := 109) B at_106 (feq (fun q => c601 (Or.inr (Or.inl q)))).1 ?_
   refine Ow.aload (pc' := 111) B at_109 ?_
   refine Ow.iload (pc' := 113) B at_111 ?_
   refine Ow.iconst (pc' := 114) (x := 1) B at_113 ?_
   refine Ow.isub (pc' := 115) (z := 2) B at_114 ?_
   refine Ow.caload (pc' := 116) B at_115 f606 ⟨by decide, by decide⟩ rfl ?_
   refine Ow.bipush (pc' := 118) (x := 58) B at_116 ?_
   refine Ow.icmpT (pc' := 160) B at_118 (feq (fun q => c601 (Or.inr (Or.inr q)))).2 ?_
   refine Ow.aload (pc' := 162) B at_160 ?_
   refine Ow.aload (pc' := 164) B at_162 ?_
   refine Ow.Go.old (fun o610 => ?_)
   have f611 := f459.keep Kh461 Ow.nin0 Ow.nin0
   refine Ow.callVirtual (pc' := 167) (W := 0) (k' := 13) (n' := 57) (argsL := [(.ref r442)]) (rest := []) (K := "java/lang/String") B at_164 (w73 hw) (w74 hw) (w76 hw) (w76 hw) (w75 hw) (w11 hw) (w77 hw) (f611).1 (con_equals_22 hw G GS (pa0 := r442) o610) pd31 ?_
   intro vq612 h613 S614 q612 zh613
   obtain ⟨rfl, rfl, rfl⟩ := q612
   refine Ow.Go.nr (S' := [a446, a396]) (st' := [(.int 1)]) ?_
   exact Ow.retI (S' := []) (t := .boolean) B at_167 (rfl)
  ·obtain ⟨r615, r616, k617, rfl, Kh461, c618, c619, c620, c621, f622, rfl⟩ := q460
   have lr616 : (r616 : Nat) < h461.size := f622.ltt
   have lr615 : (r615 : Nat) < h461.size := f622.lt
   refine Ow.Go.nr (S' := [a446, a396]) (st' := [(.ref r615)]) ?_
   refine Ow.astore (pc' := 71) (Ls' := #[.val (.int x0), .val (.int x1), .val (.int x2), .val (.int x3), .val (.int x4), .val (.int x5), .val (.int 3), .val (.ref a396), .val (.ref r442), .val (.ref r615), .unset, .unset]) B at_69 ?_
   refine Ow.aload (pc' := 73) B at_71 ?_
   refine Ow.iload (pc' := 75) B at_73 ?_
   refine Ow.Go.old (fun o623 => ?_)
   have f624 := V437.keep Kh440 Ow.nin0
   have f625 := f624.keep Kh447 Ow.nin0
   have f626 := f625.keep Kh452 (Ow.ninS (by omega) Ow.nin0)
   have f627 := f626.keep Kh461 Ow.nin0
   refine Ow.callStatic (pc' := 78) (W := 0) (k' := 13) (n' := 57) (argsL := [(.ref a396), (.int 3)]) (rest := []) B at_75 (w70 hw) (w71 hw) (w4 hw) (w72 hw) (con_strip_59 hw G GS (pa0 := a396) (px0 := y402) (px1 := y412) (px2 := y422) (px3 := y432) (pk0 := ka396) o623 f627 (by omega) (c618) c405 c415 c425 c435) pd30 ?_
   intro vq628 h629 S630 q628 zh629
   obtain ⟨rfl, rfl, rfl⟩ := q628
   refine Ow.Go.nr (S' := [a446, a396]) (st' := [(.int 3)]) ?_
   refine Ow.istore (pc' := 80) (Ls' := #[.val (.int x0), .val (.int x1), .val (.int x2), .val (.int x3), .val (.int x4), .val (.int x5), .val (.int 3), .val (.ref a396), .val (.ref r442), .val (.ref r615), .val (.int 3), .unset]) B at_78 ?_
   refine Ow.iload (pc' := 82) B at_80 ?_
   refine Ow.ifF (pc' := 85) B at_82 (by decide) ?_
   refine Ow.Go.join (α := Unit) (pc1 := 121) (fun _ => #[.val (.int x0), .val (.int x1), .val (.int x2), .val (.int x3), .val (.int x4), .val (.int x5), .val (.int 3), .val (.ref a396), .val (.ref r442), .val (.ref r615), .val (.int 3), .unset]) (fun _ => []) ?_ ?_
   ·intro _
    refine Ow.aload (pc' := 123) B at_121 ?_
    refine Ow.iload (pc' := 125) B at_123 ?_
    refine Ow.iconst (pc' := 126) (x := 1) B at_125 ?_
    refine Ow.isub (pc' := 127) (z := 2) B at_126 ?_
    refine Ow.Go.old (fun o631 => ?_)
    refine Ow.callStatic (pc' := 130) (W := 0) (k' := 13) (n' := 57) (argsL := [(.ref a396), (.int 2)]) (rest := []) B at_127 (w70 hw) (w71 hw) (w4 hw) (w72 hw) (con_strip_44 hw G GS (pa0 := a396) (px0 := y402) (px1 := y412) (px2 := y422) (px3 := y432) (pk0 := ka396) o631 f627 (by omega) (c620) (c621) c405 c415 c425 c435) pd30 ?_
    intro vq632 h633 S634 q632 zh633
    obtain ⟨rfl, rfl, rfl⟩ := q632
    refine Ow.Go.nr (S' := [a446, a396]) (st' := [(.int 0)]) ?_
    refine Ow.istore (pc' := 132) (Ls' := #[.val (.int x0), .val (.int x1), .val (.int x2), .val (.int x3), .val (.int x4), .val (.int x5), .val (.int 3), .val (.ref a396), .val (.ref r442), .val (.ref r615), .val (.int 3), .val (.int 0)]) B at_130 ?_
    refine Ow.aload (pc' := 134) B at_132 ?_
    refine Ow.Go.old (fun o635 => ?_)
    refine Ow.callVirtual (pc' := 137) (W := 0) (k' := 13) (n' := 57) (argsL := []) (rest := []) (K := "java/lang/String") B at_134 (w172 hw) (w52 hw) (w54 hw) (w54 hw) (w53 hw) (w11 hw) (w55 hw) (f622).1 (gLen hw G GS o635 f622 (by simp)) pd21 ?_
    intro vq636 h637 S638 q636 zh637
    obtain ⟨rfl, rfl, rfl⟩ := q636
    refine Ow.Go.nr (S' := [a446, a396]) (st' := [(.int 0)]) ?_
    refine Ow.iload (pc' := 139) B at_137 ?_
    refine Ow.icmpF (pc' := 142) B at_139 (by decide) ?_
    refine Ow.aload (pc' := 144) B at_142 ?_
    refine Ow.aload (pc' := 146) B at_144 ?_
    refine Ow.iload (pc' := 148) B at_146 ?_
    refine Ow.Go.old (fun o639 => ?_)
    refine Ow.callStatic (pc' := 151) (W := 0) (k' := 13) (n' := 57) (argsL := [(.ref r615), (.ref a396), (.int 0)]) (rest := []) B at_148 (w173 hw) (w174 hw) (w4 hw) (w175 hw) (con_prefixEq_37 hw G GS (pa0 := r615) (pa1 := a396) o639) pd35 ?_
    intro vq640 h641 S642 q640 zh641
    obtain ⟨rfl, rfl, rfl⟩ := q640
    refine Ow.Go.nr (S' := [a446, a396]) (st' := [(.int 1)]) ?_
    refine Ow.ifF (pc' := 154) B at_151 (by decide) ?_
    refine Ow.iconst (pc' := 155) (x := 1) B at_154 ?_
    refine Ow.goto (pc' := 159) B at_155 ?_
    exact Ow.retI (S' := []) (t := .boolean) B at_159 (rfl)
   ·intro J643
    rcases c619 with c644 | c644 | c644
    ·refine Ow.aload (pc' := 87) B at_85 ?_
     refine Ow.iload (pc' := 89) B at_87 ?_
     refine Ow.iconst (pc' := 90) (x := 1) B at_89 ?_
     refine Ow.isub (pc' := 91) (z := 2) B at_90 ?_
     refine Ow.caload (pc' := 92) B at_91 f627 ⟨by decide, by decide⟩ rfl ?_
     refine Ow.bipush (pc' := 94) (x := 59) B at_92 ?_
     refine Ow.icmpT (pc' := 121) B at_94 (teq (c644)).1 ?_
     exact J643 ()
    ·refine Ow.aload (pc' := 87) B at_85 ?_
     refine Ow.iload (pc' := 89) B at_87 ?_
     refine Ow.iconst (pc' := 90) (x := 1) B at_89 ?_
     refine Ow.isub (pc' := 91) (z := 2) B at_90 ?_
     refine Ow.caload (pc' := 92) B at_91 f627 ⟨by decide, by decide⟩ rfl ?_
     refine Ow.bipush (pc' := 94) (x := 59) B at_92 ?_
     refine Ow.icmpF (pc' := 97) B at_94 (feq (by rw [c644]; decide)).1 ?_
     refine Ow.aload (pc' := 99) B at_97 ?_
     refine Ow.iload (pc' := 101) B at_99 ?_
     refine Ow.iconst (pc' := 102) (x := 1) B at_101 ?_
     refine Ow.isub (pc' := 103) (z := 2) B at_102 ?_
     refine Ow.caload (pc' := 104) B at_103 f627 ⟨by decide, by decide⟩ rfl ?_
     refine Ow.bipush (pc' := 106) (x := 44) B at_104 ?_
     refine Ow.icmpT (pc' := 121) B at_106 (teq (c644)).1 ?_
     exact J643 ()
    ·refine Ow.aload (pc' := 87) B at_85 ?_
     refine Ow.iload (pc' := 89) B at_87 ?_
     refine Ow.iconst (pc' := 90) (x := 1) B at_89 ?_
     refine Ow.isub (pc' := 91) (z := 2) B at_90 ?_
     refine Ow.caload (pc' := 92) B at_91 f627 ⟨by decide, by decide⟩ rfl ?_
     refine Ow.bipush (pc' := 94) (x := 59) B at_92 ?_
     refine Ow.icmpF (pc' := 97) B at_94 (feq (by rw [c644]; decide)).1 ?_
     refine Ow.aload (pc' := 99) B at_97 ?_
     refine Ow.iload (pc' := 101) B at_99 ?_
     refine Ow.iconst (pc' := 102) (x := 1) B at_101 ?_
     refine Ow.isub (pc' := 103) (z := 2) B at_102 ?_
     refine Ow.caload (pc' := 104) B at_103 f627 ⟨by decide, by decide⟩ rfl ?_
     refine Ow.bipush (pc' := 106) (x := 44) B at_104 ?_
     refine Ow.icmpF (pc' := 109) B at_106 (feq (by rw [c644]; decide)).1 ?_
     refine Ow.aload (pc' := 111) B at_109 ?_
     refine Ow.iload (pc' := 113) B at_111 ?_
     refine Ow.iconst (pc' := 114) (x := 1) B at_113 ?_
     refine Ow.isub (pc' := 115) (z := 2) B at_114 ?_
     refine Ow.caload (pc' := 116) B at_115 f627 ⟨by decide, by decide⟩ rfl ?_
     refine Ow.bipush (pc' := 118) (x := 58) B at_116 ?_
     refine Ow.icmpF (pc' := 121) B at_118 (teq (c644)).2 ?_
     exact J643 ()
  ·obtain ⟨r645, r646, k647, rfl, Kh461, c648, c649, c650, c651, f652, rfl⟩ := q460
   have lr646 : (r646 : Nat) < h461.size := f652.ltt
   have lr645 : (r645 : Nat) < h461.size := f652.lt
   refine Ow.Go.nr (S' := [a446, a396]) (st' := [(.ref r645)]) ?_
   refine Ow.astore (pc' := 71) (Ls' := #[.val (.int x0), .val (.int x1), .val (.int x2), .val (.int x3), .val (.int x4), .val (.int x5), .val (.int 3), .val (.ref a396), .val (.ref r442), .val (.ref r645), .unset, .unset]) B at_69 ?_
   refine Ow.aload (pc' := 73) B at_71 ?_
   refine Ow.iload (pc' := 75) B at_73 ?_
   refine Ow.Go.old (fun o653 => ?_)
   have f654 := V437.keep Kh440 Ow.nin0
   have f655 := f654.keep Kh447 Ow.nin0
   have f656 := f655.keep Kh452 (Ow.ninS (by omega) Ow.nin0)
   have f657 := f656.keep Kh461 Ow.nin0
   refine Ow.callStatic (pc' := 78) (W := 0) (k' := 13) (n' := 57) (argsL := [(.ref a396), (.int 3)]) (rest := []) B at_75 (w70 hw) (w71 hw) (w4 hw) (w72 hw) (con_strip_59 hw G GS (pa0 := a396) (px0 := y402) (px1 := y412) (px2 := y422) (px3 := y432) (pk0 := ka396) o653 f657 (by omega) (c648) c405 c415 c425 c435) pd30 ?_
   intro vq658 h659 S660 q658 zh659
   obtain ⟨rfl, rfl, rfl⟩ := q658
   refine Ow.Go.nr (S' := [a446, a396]) (st' := [(.int 3)]) ?_
   refine Ow.istore (pc' := 80) (Ls' := #[.val (.int x0), .val (.int x1), .val (.int x2), .val (.int x3), .val (.int x4), .val (.int x5), .val (.int 3), .val (.ref a396), .val (.ref r442), .val (.ref r645), .val (.int 3), .unset]) B at_78 ?_
   refine Ow.iload (pc' := 82) B at_80 ?_
   refine Ow.ifF (pc' := 85) B at_82 (by decide) ?_
   refine Ow.Go.join (α := Unit) (pc1 := 121) (fun _ => #[.val (.int x0), .val (.int x1), .val (.int x2), .val (.int x3), .val (.int x4), .val (.int x5), .val (.int 3), .val (.ref a396), .val (.ref r442), .val (.ref r645), .val (.int 3), .unset]) (fun _ => []) ?_ ?_
   ·intro _
    refine Ow.aload (pc' := 123) B at_121 ?_
    refine Ow.iload (pc' := 125) B at_123 ?_
    refine Ow.iconst (pc' := 126) (x := 1) B at_125 ?_
    refine Ow.isub (pc' := 127) (z := 2) B at_126 ?_
    refine Ow.Go.old (fun o661 => ?_)
    refine Ow.callStatic (pc' := 130) (W := 0) (k' := 13) (n' := 57) (argsL := [(.ref a396), (.int 2)]) (rest := []) B at_127 (w70 hw) (w71 hw) (w4 hw) (w72 hw) (con_strip_45 hw G GS (pa0 := a396) (px0 := y402) (px1 := y412) (px2 := y422) (px3 := y432) (pk0 := ka396) o661 f657 (by omega) (c650) (c651) c405 c415 c425 c435) pd30 ?_
    intro vq662 h663 S664 q662 zh663
    obtain ⟨rfl, rfl, rfl⟩ := q662
    refine Ow.Go.nr (S' := [a446, a396]) (st' := [(.int 1)]) ?_
    refine Ow.istore (pc' := 132) (Ls' := #[.val (.int x0), .val (.int x1), .val (.int x2), .val (.int x3), .val (.int x4), .val (.int x5), .val (.int 3), .val (.ref a396), .val (.ref r442), .val (.ref r645), .val (.int 3), .val (.int 1)]) B at_130 ?_
    refine Ow.aload (pc' := 134) B at_132 ?_
    refine Ow.Go.old (fun o665 => ?_)
    refine Ow.callVirtual (pc' := 137) (W := 0) (k' := 13) (n' := 57) (argsL := []) (rest := []) (K := "java/lang/String") B at_134 (w172 hw) (w52 hw) (w54 hw) (w54 hw) (w53 hw) (w11 hw) (w55 hw) (f652).1 (gLen hw G GS o665 f652 (by simp)) pd21 ?_
    intro vq666 h667 S668 q666 zh667
    obtain ⟨rfl, rfl, rfl⟩ := q666
    refine Ow.Go.nr (S' := [a446, a396]) (st' := [(.int 1)]) ?_
    refine Ow.iload (pc' := 139) B at_137 ?_
    refine Ow.icmpF (pc' := 142) B at_139 (by decide) ?_
    refine Ow.aload (pc' := 144) B at_142 ?_
    refine Ow.aload (pc' := 146) B at_144 ?_
    refine Ow.iload (pc' := 148) B at_146 ?_
    refine Ow.Go.old (fun o669 => ?_)
    refine Ow.callStatic (pc' := 151) (W := 0) (k' := 13) (n' := 57) (argsL := [(.ref r645), (.ref a396), (.int 1)]) (rest := []) B at_148 (w173 hw) (w174 hw) (w4 hw) (w175 hw) (con_prefixEq_47 hw G GS (pa0 := r645) (pa1 := a396) (pa2 := r646) (px0 := y402) (px1 := y412) (px2 := y422) (px3 := y432) (pk0 := k647) (pk1 := ka396) o669 f652 f657 (by omega) c405 c415 c425 c435) pd35 ?_
    intro vq670 h671 S672 q670 zh671
    obtain ⟨rfl, rfl, rfl⟩ := q670
    refine Ow.Go.nr (S' := [a446, a396]) (st' := [(.int 1)]) ?_
    refine Ow.ifF (pc' := 154) B at_151 (by decide) ?_
    refine Ow.iconst (pc' := 155) (x := 1) B at_154 ?_
    refine Ow.goto (pc' := 159) B at_155 ?_
    exact Ow.retI (S' := []) (t := .boolean) B at_159 (rfl)
   ·intro J673
    rcases c649 with c674 | c674 | c674
    ·refine Ow.aload (pc' := 87) B at_85 ?_
     refine Ow.iload (pc' := 89) B at_87 ?_
     refine Ow.iconst (pc' := 90) (x := 1) B at_89 ?_
     refine Ow.isub (pc' := 91) (z := 2) B at_90 ?_
     refine Ow.caload (pc' := 92) B at_91 f657 ⟨by decide, by decide⟩ rfl ?_
     refine Ow.bipush (pc' := 94) (x := 59) B at_92 ?_
     refine Ow.icmpT (pc' := 121) B at_94 (teq (c674)).1 ?_
     exact J673 ()
    ·refine Ow.aload (pc' := 87) B at_85 ?_
     refine Ow.iload (pc' := 89) B at_87 ?_
     refine Ow.iconst (pc' := 90) (x := 1) B at_89 ?_
     refine Ow.isub (pc' := 91) (z := 2) B at_90 ?_
     refine Ow.caload (pc' := 92) B at_91 f657 ⟨by decide, by decide⟩ rfl ?_
     refine Ow.bipush (pc' := 94) (x := 59) B at_92 ?_
     refine Ow.icmpF (pc' := 97) B at_94 (feq (by rw [c674]; decide)).1 ?_
     refine Ow.aload (pc' := 99) B at_97 ?_
     refine Ow.iload (pc' := 101) B at_99 ?_
     refine Ow.iconst (pc' := 102) (x := 1) B at_101 ?_
     refine Ow.isub (pc' := 103) (z := 2) B at_102 ?_
     refine Ow.caload (pc' := 104) B at_103 f657 ⟨by decide, by decide⟩ rfl ?_
     refine Ow.bipush (pc' := 106) (x := 44) B at_104 ?_
     refine Ow.icmpT (pc' := 121) B at_106 (teq (c674)).1 ?_
     exact J673 ()
    ·refine Ow.aload (pc' := 87) B at_85 ?_
     refine Ow.iload (pc' := 89) B at_87 ?_
     refine Ow.iconst (pc' := 90) (x := 1) B at_89 ?_
     refine Ow.isub (pc' := 91) (z := 2) B at_90 ?_
     refine Ow.caload (pc' := 92) B at_91 f657 ⟨by decide, by decide⟩ rfl ?_
     refine Ow.bipush (pc' := 94) (x := 59) B at_92 ?_
     refine Ow.icmpF (pc' := 97) B at_94 (feq (by rw [c674]; decide)).1 ?_
     refine Ow.aload (pc' := 99) B at_97 ?_
     refine Ow.iload (pc' := 101) B at_99 ?_
     refine Ow.iconst (pc' := 102) (x := 1) B at_101 ?_
     refine Ow.isub (pc' := 103) (z := 2) B at_102 ?_
     refine Ow.caload (pc' := 104) B at_103 f657 ⟨by decide, by decide⟩ rfl ?_
     refine Ow.bipush (pc' := 106) (x := 44) B at_104 ?_
     refine Ow.icmpF (pc' := 109) B at_106 (feq (by rw [c674]; decide)).1 ?_
     refine Ow.aload (pc' := 111) B at_109 ?_
     refine Ow.iload (pc' := 113) B at_111 ?_
     refine Ow.iconst (pc' := 114) (x := 1) B at_113 ?_
     refine Ow.isub (pc' := 115) (z := 2) B at_114 ?_
     refine Ow.caload (pc' := 116) B at_115 f657 ⟨by decide, by decide⟩ rfl ?_
     refine Ow.bipush (pc' := 118) (x := 58) B at_116 ?_
     refine Ow.icmpF (pc' := 121) B at_118 (teq (c674)).2 ?_
     exact J673 ()
  ·obtain ⟨r675, r676, k677, rfl, Kh461, c678, c679, c680, f681, rfl⟩ := q460
   have lr676 : (r676 : Nat) < h461.size := f681.ltt
   have lr675 : (r675 : Nat) < h461.size := f681.lt
   refine Ow.Go.nr (S' := [a446, a396]) (st' := [(.ref r675)]) ?_
   refine Ow.astore (pc' := 71) (Ls' := #[.val (.int x0), .val (.int x1), .val (.int x2), .val (.int x3), .val (.int x4), .val (.int x5), .val (.int 3), .val (.ref a396), .val (.ref r442), .val (.ref r675), .unset, .unset]) B at_69 ?_
   refine Ow.aload (pc' := 73) B at_71 ?_
   refine Ow.iload (pc' := 75) B at_73 ?_
   refine Ow.Go.old (fun o682 => ?_)
   have f683 := V437.keep Kh440 Ow.nin0
   have f684 := f683.keep Kh447 Ow.nin0
   have f685 := f684.keep Kh452 (Ow.ninS (by omega) Ow.nin0)
   have f686 := f685.keep Kh461 Ow.nin0
   refine Ow.callStatic (pc' := 78) (W := 0) (k' := 13) (n' := 57) (argsL := [(.ref a396), (.int 3)]) (rest := []) B at_75 (w70 hw) (w71 hw) (w4 hw) (w72 hw) (con_strip_59 hw G GS (pa0 := a396) (px0 := y402) (px1 := y412) (px2 := y422) (px3 := y432) (pk0 := ka396) o682 f686 (by omega) (c678) c405 c415 c425 c435) pd30 ?_
   intro vq687 h688 S689 q687 zh688
   obtain ⟨rfl, rfl, rfl⟩ := q687
   refine Ow.Go.nr (S' := [a446, a396]) (st' := [(.int 3)]) ?_
   refine Ow.istore (pc' := 80) (Ls' := #[.val (.int x0), .val (.int x1), .val (.int x2), .val (.int x3), .val (.int x4), .val (.int x5), .val (.int 3), .val (.ref a396), .val (.ref r442), .val (.ref r675), .val (.int 3), .unset]) B at_78 ?_
   refine Ow.iload (pc' := 82) B at_80 ?_
   refine Ow.ifF (pc' := 85) B at_82 (by decide) ?_
   refine Ow.Go.join (α := Unit) (pc1 := 121) (fun _ => #[.val (.int x0), .val (.int x1), .val (.int x2), .val (.int x3), .val (.int x4), .val (.int x5), .val (.int 3), .val (.ref a396), .val (.ref r442), .val (.ref r675), .val (.int 3), .unset]) (fun _ => []) ?_ ?_
   ·intro _
    refine Ow.aload (pc' := 123) B at_121 ?_
    refine Ow.iload (pc' := 125) B at_123 ?_
    refine Ow.iconst (pc' := 126) (x := 1) B at_125 ?_
    refine Ow.isub (pc' := 127) (z := 2) B at_126 ?_
    refine Ow.Go.old (fun o690 => ?_)
    refine Ow.callStatic (pc' := 130) (W := 0) (k' := 13) (n' := 57) (argsL := [(.ref a396), (.int 2)]) (rest := []) B at_127 (w70 hw) (w71 hw) (w4 hw) (w72 hw) (con_strip_46 hw G GS (pa0 := a396) (px0 := y402) (px1 := y412) (px2 := y422) (px3 := y432) (pk0 := ka396) o690 f686 (by omega) (c680) c405 c415 c425 c435) pd30 ?_
    intro vq691 h692 S693 q691 zh692
    obtain ⟨rfl, rfl, rfl⟩ := q691
    refine Ow.Go.nr (S' := [a446, a396]) (st' := [(.int 2)]) ?_
    refine Ow.istore (pc' := 132) (Ls' := #[.val (.int x0), .val (.int x1), .val (.int x2), .val (.int x3), .val (.int x4), .val (.int x5), .val (.int 3), .val (.ref a396), .val (.ref r442), .val (.ref r675), .val (.int 3), .val (.int 2)]) B at_130 ?_
    refine Ow.aload (pc' := 134) B at_132 ?_
    refine Ow.Go.old (fun o694 => ?_)
    refine Ow.callVirtual (pc' := 137) (W := 0) (k' := 13) (n' := 57) (argsL := []) (rest := []) (K := "java/lang/String") B at_134 (w172 hw) (w52 hw) (w54 hw) (w54 hw) (w53 hw) (w11 hw) (w55 hw) (f681).1 (gLen hw G GS o694 f681 (by simp)) pd21 ?_
    intro vq695 h696 S697 q695 zh696
    obtain ⟨rfl, rfl, rfl⟩ := q695
    refine Ow.Go.nr (S' := [a446, a396]) (st' := [(.int 2)]) ?_
    refine Ow.iload (pc' := 139) B at_137 ?_
    refine Ow.icmpF (pc' := 142) B at_139 (by decide) ?_
    refine Ow.aload (pc' := 144) B at_142 ?_
    refine Ow.aload (pc' := 146) B at_144 ?_
    refine Ow.iload (pc' := 148) B at_146 ?_
    refine Ow.Go.old (fun o698 => ?_)
    refine Ow.callStatic (pc' := 151) (W := 0) (k' := 13) (n' := 57) (argsL := [(.ref r675), (.ref a396), (.int 2)]) (rest := []) B at_148 (w173 hw) (w174 hw) (w4 hw) (w175 hw) (con_prefixEq_60 hw G GS (pa0 := r675) (pa1 := a396) (pa2 := r676) (px0 := y402) (px1 := y412) (px2 := y422) (px3 := y432) (pk0 := k677) (pk1 := ka396) o698 f681 f686 (by omega) c405 c415 c425 c435) pd35 ?_
    intro vq699 h700 S701 q699 zh700
    obtain ⟨rfl, rfl, rfl⟩ := q699
    refine Ow.Go.nr (S' := [a446, a396]) (st' := [(.int 1)]) ?_
    refine Ow.ifF (pc' := 154) B at_151 (by decide) ?_
    refine Ow.iconst (pc' := 155) (x := 1) B at_154 ?_
    refine Ow.goto (pc' := 159) B at_155 ?_
    exact Ow.retI (S' := []) (t := .boolean) B at_159 (rfl)
   ·intro J702
    rcases c679 with c703 | c703 | c703
    ·refine Ow.aload (pc' := 87) B at_85 ?_
     refine Ow.iload (pc' := 89) B at_87 ?_
     refine Ow.iconst (pc' := 90) (x := 1) B at_89 ?_
     refine Ow.isub (pc' := 91) (z := 2) B at_90 ?_
     refine Ow.caload (pc' := 92) B at_91 f686 ⟨by decide, by decide⟩ rfl ?_
     refine Ow.bipush (pc' := 94) (x := 59) B at_92 ?_
     refine Ow.icmpT (pc' := 121) B at_94 (teq (c703)).1 ?_
     exact J702 ()
    ·refine Ow.aload (pc' := 87) B at_85 ?_
     refine Ow.iload (pc' := 89) B at_87 ?_
     refine Ow.iconst (pc' := 90) (x := 1) B at_89 ?_
     refine Ow.isub (pc' := 91) (z := 2) B at_90 ?_
     refine Ow.caload (pc' := 92) B at_91 f686 ⟨by decide, by decide⟩ rfl ?_
     refine Ow.bipush (pc' := 94) (x := 59) B at_92 ?_
     refine Ow.icmpF (pc' := 97) B at_94 (feq (by rw [c703]; decide)).1 ?_
     refine Ow.aload (pc' := 99) B at_97 ?_
     refine Ow.iload (pc' := 101) B at_99 ?_
     refine Ow.iconst (pc' := 102) (x := 1) B at_101 ?_
     refine Ow.isub (pc' := 103) (z := 2) B at_102 ?_
     refine Ow.caload (pc' := 104) B at_103 f686 ⟨by decide, by decide⟩ rfl ?_
     refine Ow.bipush (pc' := 106) (x := 44) B at_104 ?_
     refine Ow.icmpT (pc' := 121) B at_106 (teq (c703)).1 ?_
     exact J702 ()
    ·refine Ow.aload (pc' := 87) B at_85 ?_
     refine Ow.iload (pc' := 89) B at_87 ?_
     refine Ow.iconst (pc' := 90) (x := 1) B at_89 ?_
     refine Ow.isub (pc' := 91) (z := 2) B at_90 ?_
     refine Ow.caload (pc' := 92) B at_91 f686 ⟨by decide, by decide⟩ rfl ?_
     refine Ow.bipush (pc' := 94) (x := 59) B at_92 ?_
     refine Ow.icmpF (pc' := 97) B at_94 (feq (by rw [c703]; decide)).1 ?_
     refine Ow.aload (pc' := 99) B at_97 ?_
     refine Ow.iload (pc' := 101) B at_99 ?_
     refine Ow.iconst (pc' := 102) (x := 1) B at_101 ?_
     refine Ow.isub (pc' := 103) (z := 2) B at_102 ?_
     refine Ow.caload (pc' := 104) B at_103 f686 ⟨by decide, by decide⟩ rfl ?_
     refine Ow.bipush (pc' := 106) (x := 44) B at_104 ?_
     refine Ow.icmpF (pc' := 109) B at_106 (feq (by rw [c703]; decide)).1 ?_
     refine Ow.aload (pc' := 111) B at_109 ?_
     refine Ow.iload (pc' := 113) B at_111 ?_
     refine Ow.iconst (pc' := 114) (x := 1) B at_113 ?_
     refine Ow.isub (pc' := 115) (z := 2) B at_114 ?_
     refine Ow.caload (pc' := 116) B at_115 f686 ⟨by decide, by decide⟩ rfl ?_
     refine Ow.bipush (pc' := 118) (x := 58) B at_116 ?_
     refine Ow.icmpF (pc' := 121) B at_118 (teq (c703)).2 ?_
     exact J702 ()
 ·refine Ow.irem (pc' := 6) (z := 4) (hz := hz5) B at_5 ?_
  refine Ow.istore (pc' := 8) (Ls' := #[.val (.int x0), .val (.int x1), .val (.int x2), .val (.int x3), .val (.int x4), .val (.int x5), .val (.int 4), .unset, .unset, .unset, .unset, .unset]) B at_6 ?_
  refine Ow.iconst (pc' := 9) (x := 4) B at_8 ?_
  refine Ow.newArr (pc' := 11) (k' := 1) (n' := 4) (cap := 4) B at_9 (w1 hw) (by decide) (by decide) ?_
  intro h705 a704 ka704 ga704 ba704 Kh705 V0a704
  have zh705 := Kh705.1
  have la704 : (a704 : Nat) < h705.size := V0a704.lt
  have Va704 : Arv Z h705 a704 ka704 .char (4 : Int32) [(.int 0), (.int 0), (.int 0), (.int 0)] (.int 0) := V0a704.pad (pad_rep [] (.int 0) 4)
  refine Ow.astore (pc' := 13) (Ls' := #[.val (.int x0), .val (.int x1), .val (.int x2), .val (.int x3), .val (.int x4), .val (.int x5), .val (.int 4), .val (.ref a704), .unset, .unset, .unset, .unset]) B at_11 ?_
  refine Ow.aload (pc' := 15) B at_13 ?_
  refine Ow.iconst (pc' := 16) (x := 0) B at_15 ?_
  refine Ow.iloadN (pc' := 17) B at_16 ?_
  refine Ow.Go.old (fun o706 => ?_)
  refine Ow.callStatic (pc' := 20) (W := 2) (k' := 1) (n' := 4) (argsL := [(.int x1)]) (rest := [(.int 0), (.ref a704)]) B at_17 (w2 hw) (w3 hw) (w4 hw) (w5 hw) (con_sel_14 hw G GS (px0 := x1) o706) pd24 ?_
  intro vq707 h708 S709 q707 zh708
  obtain ⟨y710, rfl, rfl, c711, c712, c713, rfl⟩ := q707
  refine Ow.Go.nr (S' := [a704]) (st' := [(.int y710), (.int 0), (.ref a704)]) ?_
  refine Ow.castore (pc' := 21) (i := 0) B at_20 Va704 ⟨by decide, by decide⟩ ?_
  intro h714 Kh714 V0h714
  have zh714 := Kh714.1
  have V715 : Arv Z h714 a704 ka704 .char (4 : Int32) [(.int y710), (.int 0), (.int 0), (.int 0)] (.int 0) := (by have e0 := V0h714; rw [show nar .char y710 = y710 from c713] at e0; exact e0)
  refine Ow.aload (pc' := 23) B at_21 ?_
  refine Ow.iconst (pc' := 24) (x := 1) B at_23 ?_
  refine Ow.iloadN (pc' := 25) B at_24 ?_
  refine Ow.Go.old (fun o716 => ?_)
  refine Ow.callStatic (pc' := 28) (W := 2) (k' := 1) (n' := 4) (argsL := [(.int x2)]) (rest := [(.int 1), (.ref a704)]) B at_25 (w2 hw) (w3 hw) (w4 hw) (w5 hw) (con_sel_14 hw G GS (px0 := x2) o716) pd24 ?_
  intro vq717 h718 S719 q717 zh718
  obtain ⟨y720, rfl, rfl, c721, c722, c723, rfl⟩ := q717
  refine Ow.Go.nr (S' := [a704]) (st' := [(.int y720), (.int 1), (.ref a704)]) ?_
  refine Ow.castore (pc' := 29) (i := 1) B at_28 V715 ⟨by decide, by decide⟩ ?_
  intro h724 Kh724 V0h724
  have zh724 := Kh724.1
  have V725 : Arv Z h724 a704 ka704 .char (4 : Int32) [(.int y710), (.int y720), (.int 0), (.int 0)] (.int 0) := (by have e0 := V0h724; rw [show nar .char y720 = y720 from c723] at e0; exact e0)
  refine Ow.aload (pc' := 31) B at_29 ?_
  refine Ow.iconst (pc' := 32) (x := 2) B at_31 ?_
  refine Ow.iloadN (pc' := 33) B at_32 ?_
  refine Ow.Go.old (fun o726 => ?_)
  refine Ow.callStatic (pc' := 36) (W := 2) (k' := 1) (n' := 4) (argsL := [(.int x3)]) (rest := [(.int 2), (.ref a704)]) B at_33 (w2 hw) (w3 hw) (w4 hw) (w5 hw) (con_sel_14 hw G GS (px0 := x3) o726) pd24 ?_
  intro vq727 h728 S729 q727 zh728
  obtain ⟨y730, rfl, rfl, c731, c732, c733, rfl⟩ := q727
  refine Ow.Go.nr (S' := [a704]) (st' := [(.int y730), (.int 2), (.ref a704)]) ?_
  refine Ow.castore (pc' := 37) (i := 2) B at_36 V725 ⟨by decide, by decide⟩ ?_
  intro h734 Kh734 V0h734
  have zh734 := Kh734.1
  have V735 : Arv Z h734 a704 ka704 .char (4 : Int32) [(.int y710), (.int y720), (.int y730), (.int 0)] (.int 0) := (by have e0 := V0h734; rw [show nar .char y730 = y730 from c733] at e0; exact e0)
  refine Ow.aload (pc' := 39) B at_37 ?_
  refine Ow.iconst (pc' := 40) (x := 3) B at_39 ?_
  refine Ow.iload (pc' := 42) B at_40 ?_
  refine Ow.Go.old (fun o736 => ?_)
  refine Ow.callStatic (pc' := 45) (W := 2) (k' := 1) (n' := 4) (argsL := [(.int x4)]) (rest := [(.int 3), (.ref a704)]) B at_42 (w2 hw) (w3 hw) (w4 hw) (w5 hw) (con_sel_14 hw G GS (px0 := x4) o736) pd24 ?_
  intro vq737 h738 S739 q737 zh738
  obtain ⟨y740, rfl, rfl, c741, c742, c743, rfl⟩ := q737
  refine Ow.Go.nr (S' := [a704]) (st' := [(.int y740), (.int 3), (.ref a704)]) ?_
  refine Ow.castore (pc' := 46) (i := 3) B at_45 V735 ⟨by decide, by decide⟩ ?_
  intro h744 Kh744 V0h744
  have zh744 := Kh744.1
  have V745 : Arv Z h744 a704 ka704 .char (4 : Int32) [(.int y710), (.int y720), (.int y730), (.int y740)] (.int 0) := (by have e0 := V0h744; rw [show nar .char y740 = y740 from c743] at e0; exact e0)
  refine Ow.iload (pc' := 48) B at_46 ?_
  refine Ow.aload (pc' := 50) B at_48 ?_
  refine Ow.Go.old (fun o746 => ?_)
  refine Ow.callStatic (pc' := 53) (W := 0) (k' := 7) (n' := 24) (argsL := [(.int 4), (.ref a704)]) (rest := []) B at_50 (w6 hw) (w7 hw) (w4 hw) (w8 hw) (con_str_61 hw G GS (pa0 := a704) (px0 := y710) (px1 := y720) (px2 := y730) (px3 := y740) (pk0 := ka704) o746 V745 (by omega) (c711) (c712) (c721) (c722) (c731) (c732) (c741) (c742) c713 c723 c733 c743) pd26 ?_
  intro vq747 h748 S749 q747 zh748
  obtain ⟨r750, r751, k752, rfl, Kh748, br750, f753, rfl⟩ := q747
  have lr751 : (r751 : Nat) < h748.size := f753.ltt
  have lr750 : (r750 : Nat) < h748.size := f753.lt
  refine Ow.Go.nr (S' := [a704]) (st' := [(.ref r750)]) ?_
  refine Ow.astore (pc' := 55) (Ls' := #[.val (.int x0), .val (.int x1), .val (.int x2), .val (.int x3), .val (.int x4), .val (.int x5), .val (.int 4), .val (.ref a704), .val (.ref r750), .unset, .unset, .unset]) B at_53 ?_
  refine Ow.newObj (pc' := 58) (k' := 8) (n' := 26) B at_55 (w30 hw) (w31 hw) (w32 hw) ?_
  intro h755 a754 ga754 ba754 Kh755 Aa754 Da754
  have zh755 := Kh755.1
  have la754 : (a754 : Nat) < h755.size := Aa754.lt
  have f756 : Fld Z h755 a754 "com/example/elsewhere/elsewhere/Field$Subfield" "code" "I" (.int 0) := Da754 (Or.inr (w43 hw)) (ty := .int) (by decide)
  have f757 : Fld Z h755 a754 "com/example/elsewhere/elsewhere/Field$Subfield" "value" "Ljava/lang/String;" .null := Da754 (Or.inr (w45 hw)) (ty := (.object "java/lang/String")) (by decide)
  refine Ow.dup (pc' := 59) B at_58 ?_
  refine Ow.iload (pc' := 61) B at_59 ?_
  refine Ow.aload (pc' := 63) B at_61 ?_
  refine Ow.Go.old (fun o758 => ?_)
  refine Ow.callInit (pc' := 66) (W := 1) (k' := 8) (n' := 26) (argsL := [(.int x5), (.ref r750)]) (rest := [(.ref a754)]) B at_63 (w33 hw) (w34 hw) (w32 hw) (w35 hw) (con_init_17 hw G GS (pa0 := a754) (pa1 := r750) (px0 := x5) o758 Aa754 f756 f757 (by omega)) pd28 ?_
  intro vq759 h760 S761 q759 zh760
  obtain ⟨rfl, Kh760, f762, f763, f764, rfl⟩ := q759
  refine Ow.Go.nr (S' := [a754, a704]) (st' := [(.ref a754)]) ?_
  refine Ow.Go.old (fun o765 => ?_)
  have f766 := f753.keep Kh755 Ow.nin0 Ow.nin0
  have f767 := f766.keep Kh760 (Ow.ninS (by omega) Ow.nin0) (Ow.ninS (by omega) Ow.nin0)
  refine Ow.callVirtual (pc' := 69) (W := 0) (k' := 13) (n' := 58) (argsL := []) (rest := []) (K := "com/example/elsewhere/elsewhere/Field$Subfield") B at_66 (w46 hw) (w47 hw) (w49 hw) (w49 hw) (w48 hw) (w32 hw) (w50 hw) f762 (con_withoutSeparator_70 hw G GS (pa0 := a754) (pa1 := r750) (pa2 := r751) (px0 := y710) (px1 := y720) (px2 := y730) (px3 := y740) (pk0 := k752) o765 f762 f764 f767 (by omega) (by omega) (c711) (c721) (c731) (c741) c713 c723 c733 c743) pd29 ?_
  intro vq768 h769 S770 q768 zh769
  rcases q768 with q768 | q768 | q768 | q768 | q768 | q768 | q768 | q768 | q768 | q768 | q768 | q768 | q768 | q768 | q768
  ·obtain ⟨rfl, rfl, c771, c772, c773, c774, rfl⟩ := q768
   refine Ow.Go.nr (S' := [a754, a704]) (st' := [(.ref r750)]) ?_
   refine Ow.astore (pc' := 71) (Ls' := #[.val (.int x0), .val (.int x1), .val (.int x2), .val (.int x3), .val (.int x4), .val (.int x5), .val (.int 4), .val (.ref a704), .val (.ref r750), .val (.ref r750), .unset, .unset]) B at_69 ?_
   refine Ow.aload (pc' := 73) B at_71 ?_
   refine Ow.iload (pc' := 75) B at_73 ?_
   refine Ow.Go.old (fun o775 => ?_)
   have f776 := V745.keep Kh748 Ow.nin0
   have f777 := f776.keep Kh755 Ow.nin0
   have f778 := f777.keep Kh760 (Ow.ninS (by omega) Ow.nin0)
   refine Ow.callStatic (pc' := 78) (W := 0) (k' := 13) (n' := 58) (argsL := [(.ref a704), (.int 4)]) (rest := []) B at_75 (w70 hw) (w71 hw) (w4 hw) (w72 hw) (con_strip_71 hw G GS (pa0 := a704) (px0 := y710) (px1 := y720) (px2 := y730) (px3 := y740) (pk0 := ka704) o775 f778 (by omega) (c771) (c772) (c773) (c774) c713 c723 c733 c743) pd30 ?_
   intro vq779 h780 S781 q779 zh780
   obtain ⟨rfl, rfl, rfl⟩ := q779
   refine Ow.Go.nr (S' := [a754, a704]) (st' := [(.int 0)]) ?_
   refine Ow.istore (pc' := 80) (Ls' := #[.val (.int x0), .val (.int x1), .val (.int x2), .val (.int x3), .val (.int x4), .val (.int x5), .val (.int 4), .val (.ref a704), .val (.ref r750), .val (.ref r750), .val (.int 0), .unset]) B at_78 ?_
   refine Ow.iload (pc' := 82) B at_80 ?_
   refine Ow.ifT (pc' := 160) B at_82 (by decide) ?_
   refine Ow.aload (pc' := 162) B at_160 ?_
   refine Ow.aload (pc' := 164) B at_162 ?_
   refine Ow.Go.old (fun o782 => ?_)
   refine Ow.callVirtual (pc' := 167) (W := 0) (k' := 13) (n' := 58) (argsL := [(.ref r750)]) (rest := []) (K := "java/lang/String") B at_164 (w73 hw) (w74 hw) (w76 hw) (w76 hw) (w75 hw) (w11 hw) (w77 hw) (f767).1 (con_equals_22 hw G GS (pa0 := r750) o782) pd31 ?_
   intro vq783 h784 S785 q783 zh784
   obtain ⟨rfl, rfl, rfl⟩ := q783
   refine Ow.Go.nr (S' := [a754, a704]) (st' := [(.int 1)]) ?_
   exact Ow.retI (S' := []) (t := .boolean) B at_167 (rfl)
  ·obtain ⟨rfl, Kh769, c786, c787, c788, c789, c790, rfl⟩ := q768
   refine Ow.Go.nr (S' := [a754, a704]) (st' := [(.ref r750)]) ?_
   refine Ow.astore (pc' := 71) (Ls' := #[.val (.int x0), .val (.int x1), .val (.int x2), .val (.int x3), .val (.int x4), .val (.int x5), .val (.int 4), .val (.ref a704), .val (.ref r750), .val (.ref r750), .unset, .unset]) B at_69 ?_
   refine Ow.aload (pc' := 73) B at_71 ?_
   refine Ow.iload (pc' := 75) B at_73 ?_
   refine Ow.Go.old (fun o791 => ?_)
   have f792 := V745.keep Kh748 Ow.nin0
   have f793 := f792.keep Kh755 Ow.nin0
   have f794 := f793.keep Kh760 (Ow.ninS (by omega) Ow.nin0)
   have f795 := f794.keep Kh769 Ow.nin0
   refine Ow.callStatic (pc' := 78) (W := 0) (k' := 13) (n' := 58) (argsL := [(.ref a704), (.int 4)]) (rest := []) B at_75 (w70 hw) (w71 hw) (w4 hw) (w72 hw) (con_strip_72 hw G GS (pa0 := a704) (px0 := y710) (px1 := y720) (px2 := y730) (px3 := y740) (pk0 := ka704) o791 f795 (by omega) (c786) (c787) (c788) (c789) c713 c723 c733 c743) pd30 ?_
   intro vq796 h797 S798 q796 zh797
   obtain ⟨rfl, rfl, rfl⟩ := q796
   refine Ow.Go.nr (S' := [a754, a704]) (st' := [(.int 1)]) ?_
   refine Ow.istore (pc' := 80) (Ls' := #[.val (.int x0), .val (.int x1), .val (.int x2), .val (.int x3), .val (.int x4), .val (.int x5), .val (.int 4), .val (.ref a704), .val (.ref r750), .val (.ref r750), .val (.int 1), .unset]) B at_78 ?_
   refine Ow.iload (pc' := 82) B at_80 ?_
   refine Ow.ifF (pc' := 85) B at_82 (by decide) ?_
   refine Ow.aload (pc' := 87) B at_85 ?_
   refine Ow.iload (pc' := 89) B at_87 ?_
   refine Ow.iconst (pc' := 90) (x := 1) B at_89 ?_
   refine Ow.isub (pc' := 91) (z := 0) B at_90 ?_
   refine Ow.caload (pc' := 92) B at_91 f795 ⟨by decide, by decide⟩ rfl ?_
   refine Ow.bipush (pc' := 94) (x := 59) B at_92 ?_
   refine Ow.icmpF (pc' := 97) B at_94 (feq (fun q => c790 (Or.inl q))).1 ?_
   refine Ow.aload (pc' := 99) B at_97 ?_
   refine Ow.iload (pc' := 101) B at_99 ?_
   refine Ow.iconst (pc' := 102) (x := 1) B at_101 ?_
   refine Ow.isub (pc' := 103) (z := 0) B at_102 ?_
   refine Ow.caload (pc' := 104) B at_103 f795 ⟨by decide, by decide⟩ rfl ?_
   refine Ow.bipush (pc' := 106) (x := 44) B at_104 ?_
   refine Ow.icmpF (pc' := 109) B at_106 (feq (fun q => c790 (Or.inr (Or.inl q)))).1 ?_
   refine Ow.aload (pc' := 111) B at_109 ?_
   refine Ow.iload (pc' := 113) B at_111 ?_
   refine Ow.iconst (pc' := 114) (x := 1) B at_113 ?_
   refine Ow.isub (pc' := 115) (z := 0) B at_114 ?_
   refine Ow.caload (pc' := 116) B at_115 f795 ⟨by decide, by decide⟩ rfl ?_
   refine Ow.bipush (pc' := 118) (x := 58) B at_116 ?_
   refine Ow.icmpT (pc' := 160) B at_118 (feq (fun q => c790 (Or.inr (Or.inr q)))).2 ?_
   refine Ow.aload (pc' := 162) B at_160 ?_
   refine Ow.aload (pc' := 164) B at_162 ?_
   refine Ow.Go.old (fun o799 => ?_)
   have f800 := f767.keep Kh769 Ow.nin0 Ow.nin0
   refine Ow.callVirtual (pc' := 167) (W := 0) (k' := 13) (n' := 58) (argsL := [(.ref r750)]) (rest := []) (K := "java/lang/String") B at_164 (w73 hw) (w74 hw) (w76 hw) (w76 hw) (w75 hw) (w11 hw) (w77 hw) (f800).1 (con_equals_22 hw G GS (pa0 := r750) o799) pd31 ?_
   intro vq801 h802 S803 q801 zh802
   obtain ⟨rfl, rfl, rfl⟩ := q801
   refine Ow.Go.nr (S' := [a754, a704]) (st' := [(.int 1)]) ?_
   exact Ow.retI (S' := []) (t := .boolean) B at_167 (rfl)
  ·obtain ⟨r804, r805, k806, rfl, Kh769, c807, c808, c809, c810, c811, f812, rfl⟩ := q768
   have lr805 : (r805 : Nat) < h769.size := f812.ltt
   have lr804 : (r804 : Nat) < h769.size := f812.lt
   refine Ow.Go.nr (S' := [a754, a704]) (st' := [(.ref r804)]) ?_
   refine Ow.astore (pc' := 71) (Ls' := #[.val (.int x0), .val (.int x1), .val (.int x2), .val (.int x3), .val (.int x4), .val (.int x5), .val (.int 4), .val (.ref a704), .val (.ref r750), .val (.ref r804), .unset, .unset]) B at_69 ?_
   refine Ow.aload (pc' := 73) B at_71 ?_
   refine Ow.iload (pc' := 75) B at_73 ?_
   refine Ow.Go.old (fun o813 => ?_)
   have f814 := V745.keep Kh748 Ow.nin0
   have f815 := f814.keep Kh755 Ow.nin0
   have f816 := f815.keep Kh760 (Ow.ninS (by omega) Ow.nin0)
   have f817 := f816.keep Kh769 Ow.nin0
   refine Ow.callStatic (pc' := 78) (W := 0) (k' := 13) (n' := 58) (argsL := [(.ref a704), (.int 4)]) (rest := []) B at_75 (w70 hw) (w71 hw) (w4 hw) (w72 hw) (con_strip_72 hw G GS (pa0 := a704) (px0 := y710) (px1 := y720) (px2 := y730) (px3 := y740) (pk0 := ka704) o813 f817 (by omega) (c807) (c808) (c809) (c810) c713 c723 c733 c743) pd30 ?_
   intro vq818 h819 S820 q818 zh819
   obtain ⟨rfl, rfl, rfl⟩ := q818
   refine Ow.Go.nr (S' := [a754, a704]) (st' := [(.int 1)]) ?_
   refine Ow.istore (pc' := 80) (Ls' := #[.val (.int x0), .val (.int x1), .val (.int x2), .val (.int x3), .val (.int x4), .val (.int x5), .val (.int 4), .val (.ref a704), .val (.ref r750), .val (.ref r804), .val (.int 1), .unset]) B at_78 ?_
   refine Ow.iload (pc' := 82) B at_80 ?_
   refine Ow.ifF (pc' := 85) B at_82 (by decide) ?_
   refine Ow.Go.join (α := Unit) (pc1 := 121) (fun _ => #[.val (.int x0), .val (.int x1), .val (.int x2), .val (.int x3), .val (.int x4), .val (.int x5), .val (.int 4), .val (.ref a704), .val (.ref r750), .val (.ref r804), .val (.int 1), .unset]) (fun _ => []) ?_ ?_
   ·intro _
    refine Ow.aload (pc' := 123) B at_121 ?_
    refine Ow.iload (pc' := 125) B at_123 ?_
    refine Ow.iconst (pc' := 126) (x := 1) B at_125 ?_
    refine Ow.isub (pc' := 127) (z := 0) B at_126 ?_
    refine Ow.Go.old (fun o821 => ?_)
    refine Ow.callStatic (pc' := 130) (W := 0) (k' := 13) (n' := 58) (argsL := [(.ref a704), (.int 0)]) (rest := []) B at_127 (w70 hw) (w71 hw) (w4 hw) (w72 hw) (con_strip_21 hw G GS (pa0 := a704) o821) pd30 ?_
    intro vq822 h823 S824 q822 zh823
    obtain ⟨rfl, rfl, rfl⟩ := q822
    refine Ow.Go.nr (S' := [a754, a704]) (st' := [(.int 0)]) ?_
    refine Ow.istore (pc' := 132) (Ls' := #[.val (.int x0), .val (.int x1), .val (.int x2), .val (.int x3), .val (.int x4), .val (.int x5), .val (.int 4), .val (.ref a704), .val (.ref r750), .val (.ref r804), .val (.int 1), .val (.int 0)]) B at_130 ?_
    refine Ow.aload (pc' := 134) B at_132 ?_
    refine Ow.Go.old (fun o825 => ?_)
    refine Ow.callVirtual (pc' := 137) (W := 0) (k' := 13) (n' := 58) (argsL := []) (rest := []) (K := "java/lang/String") B at_134 (w172 hw) (w52 hw) (w54 hw) (w54 hw) (w53 hw) (w11 hw) (w55 hw) (f812).1 (gLen hw G GS o825 f812 (by simp)) pd21 ?_
    intro vq826 h827 S828 q826 zh827
    obtain ⟨rfl, rfl, rfl⟩ := q826
    refine Ow.Go.nr (S' := [a754, a704]) (st' := [(.int 0)]) ?_
    refine Ow.iload (pc' := 139) B at_137 ?_
    refine Ow.icmpF (pc' := 142) B at_139 (by decide) ?_
    refine Ow.aload (pc' := 144) B at_142 ?_
    refine Ow.aload (pc' := 146) B at_144 ?_
    refine Ow.iload (pc' := 148) B at_146 ?_
    refine Ow.Go.old (fun o829 => ?_)
    refine Ow.callStatic (pc' := 151) (W := 0) (k' := 13) (n' := 58) (argsL := [(.ref r804), (.ref a704), (.int 0)]) (rest := []) B at_148 (w173 hw) (w174 hw) (w4 hw) (w175 hw) (con_prefixEq_37 hw G GS (pa0 := r804) (pa1 := a704) o829) pd35 ?_
    intro vq830 h831 S832 q830 zh831
    obtain ⟨rfl, rfl, rfl⟩ := q830
    refine Ow.Go.nr (S' := [a754, a704]) (st' := [(.int 1)]) ?_
    refine Ow.ifF (pc' := 154) B at_151 (by decide) ?_
    refine Ow.iconst (pc' := 155) (x := 1) B at_154 ?_
    refine Ow.goto (pc' := 159) B at_155 ?_
    exact Ow.retI (S' := []) (t := .boolean) B at_159 (rfl)
   ·intro J833
    rcases c811 with c834 | c834 | c834
    ·refine Ow.aload (pc' := 87) B at_85 ?_
     refine Ow.iload (pc' := 89) B at_87 ?_
     refine Ow.iconst (pc' := 90) (x := 1) B at_89 ?_
     refine Ow.isub (pc' := 91) (z := 0) B at_90 ?_
     refine Ow.caload (pc' := 92) B at_91 f817 ⟨by decide, by decide⟩ rfl ?_
     refine Ow.bipush (pc' := 94) (x := 59) B at_92 ?_
     refine Ow.icmpT (pc' := 121) B at_94 (teq (c834)).1 ?_
     exact J833 ()
    ·refine Ow.aload (pc' := 87) B at_85 ?_
     refine Ow.iload (pc' := 89) B at_87 ?_
     refine Ow.iconst (pc' := 90) (x := 1) B at_89 ?_
     refine Ow.isub (pc' := 91) (z := 0) B at_90 ?_
     refine Ow.caload (pc' := 92) B at_91 f817 ⟨by decide, by decide⟩ rfl ?_
     refine Ow.bipush (pc' := 94) (x := 59) B at_92 ?_
     refine Ow.icmpF (pc' := 97) B at_94 (feq (by rw [c834]; decide)).1 ?_
     refine Ow.aload (pc' := 99) B at_97 ?_
     refine Ow.iload (pc' := 101) B at_99 ?_
     refine Ow.iconst (pc' := 102) (x := 1) B at_101 ?_
     refine Ow.isub (pc' := 103) (z := 0) B at_102 ?_
     refine Ow.caload (pc' := 104) B at_103 f817 ⟨by decide, by decide⟩ rfl ?_
     refine Ow.bipush (pc' := 106) (x := 44) B at_104 ?_
     refine Ow.icmpT (pc' := 121) B at_106 (teq (c834)).1 ?_
     exact J833 ()
    ·refine Ow.aload (pc' := 87) B at_85 ?_
     refine Ow.iload (pc' := 89) B at_87 ?_
     refine Ow.iconst (pc' := 90) (x := 1) B at_89 ?_
     refine Ow.isub (pc' := 91) (z := 0) B at_90 ?_
     refine Ow.caload (pc' := 92) B at_91 f817 ⟨by decide, by decide⟩ rfl ?_
     refine Ow.bipush (pc' := 94) (x := 59) B at_92 ?_
     refine Ow.icmpF (pc' := 97) B at_94 (feq (by rw [c834]; decide)).1 ?_
     refine Ow.aload (pc' := 99) B at_97 ?_
     refine Ow.iload (pc' := 101) B at_99 ?_
     refine Ow.iconst (pc' := 102) (x := 1) B at_101 ?_
     refine Ow.isub (pc' := 103) (z := 0) B at_102 ?_
     refine Ow.caload (pc' := 104) B at_103 f817 ⟨by decide, by decide⟩ rfl ?_
     refine Ow.bipush (pc' := 106) (x := 44) B at_104 ?_
     refine Ow.icmpF (pc' := 109) B at_106 (feq (by rw [c834]; decide)).1 ?_
     refine Ow.aload (pc' := 111) B at_109 ?_
     refine Ow.iload (pc' := 113) B at_111 ?_
     refine Ow.iconst (pc' := 114) (x := 1) B at_113 ?_
     refine Ow.isub (pc' := 115) (z := 0) B at_114 ?_
     refine Ow.caload (pc' := 116) B at_115 f817 ⟨by decide, by decide⟩ rfl ?_
     refine Ow.bipush (pc' := 118) (x := 58) B at_116 ?_
     refine Ow.icmpF (pc' := 121) B at_118 (teq (c834)).2 ?_
     exact J833 ()
  ·obtain ⟨rfl, Kh769, c835, c836, c837, c838, rfl⟩ := q768
   refine Ow.Go.nr (S' := [a754, a704]) (st' := [(.ref r750)]) ?_
   refine Ow.astore (pc' := 71) (Ls' := #[.val (.int x0), .val (.int x1), .val (.int x2), .val (.int x3), .val (.int x4), .val (.int x5), .val (.int 4), .val (.ref a704), .val (.ref r750), .val (.ref r750), .unset, .unset]) B at_69 ?_
   refine Ow.aload (pc' := 73) B at_71 ?_
   refine Ow.iload (pc' := 75) B at_73 ?_
   refine Ow.Go.old (fun o839 => ?_)
   have f840 := V745.keep Kh748 Ow.nin0
   have f841 := f840.keep Kh755 Ow.nin0
   have f842 := f841.keep Kh760 (Ow.ninS (by omega) Ow.nin0)
   have f843 := f842.keep Kh769 Ow.nin0
   refine Ow.callStatic (pc' := 78) (W := 0) (k' := 13) (n' := 58) (argsL := [(.ref a704), (.int 4)]) (rest := []) B at_75 (w70 hw) (w71 hw) (w4 hw) (w72 hw) (con_strip_73 hw G GS (pa0 := a704) (px0 := y710) (px1 := y720) (px2 := y730) (px3 := y740) (pk0 := ka704) o839 f843 (by omega) (c835) (c836) (c837) c713 c723 c733 c743) pd30 ?_
   intro vq844 h845 S846 q844 zh845
   obtain ⟨rfl, rfl, rfl⟩ := q844
   refine Ow.Go.nr (S' := [a754, a704]) (st' := [(.int 2)]) ?_
   refine Ow.istore (pc' := 80) (Ls' := #[.val (.int x0), .val (.int x1), .val (.int x2), .val (.int x3), .val (.int x4), .val (.int x5), .val (.int 4), .val (.ref a704), .val (.ref r750), .val (.ref r750), .val (.int 2), .unset]) B at_78 ?_
   refine Ow.iload (pc' := 82) B at_80 ?_
   refine Ow.ifF (pc' := 85) B at_82 (by decide) ?_
   refine Ow.aload (pc' := 87) B at_85 ?_
   refine Ow.iload (pc' := 89) B at_87 ?_
   refine Ow.iconst (pc' := 90) (x := 1) B at_89 ?_
   refine Ow.isub (pc' := 91) (z := 1) B at_90 ?_
   refine Ow.caload (pc' := 92) B at_91 f843 ⟨by decide, by decide⟩ rfl ?_
   refine Ow.bipush (pc' := 94) (x := 59) B at_92 ?_
   refine Ow.icmpF (pc' := 97) B at_94 (feq (fun q => c838 (Or.inl q))).1 ?_
   refine Ow.aload (pc' := 99) B at_97 ?_
   refine Ow.iload (pc' := 101) B at_99 ?_
   refine Ow.iconst (pc' := 102) (x := 1) B at_101 ?_
   refine Ow.isub (pc' := 103) (z := 1) B at_102 ?_
   refine Ow.caload (pc' := 104) B at_103 f843 ⟨by decide, by decide⟩ rfl ?_
   refine Ow.bipush (pc' := 106) (x := 44) B at_104 ?_
   refine Ow.icmpF (pc' := 109) B at_106 (feq (fun q => c838 (Or.inr (Or.inl q)))).1 ?_
   refine Ow.aload (pc' := 111) B at_109 ?_
   refine Ow.iload (pc' := 113) B at_111 ?_
   refine Ow.iconst (pc' := 114) (x := 1) B at_113 ?_
   refine Ow.isub (pc' := 115) (z := 1) B at_114 ?_
   refine Ow.caload (pc' := 116) B at_115 f843 ⟨by decide, by decide⟩ rfl ?_
   refine Ow.bipush (pc' := 118) (x := 58) B at_116 ?_
   refine Ow.icmpT (pc' := 160) B at_118 (feq (fun q => c838 (Or.inr (Or.inr q)))).2 ?_
   refine Ow.aload (pc' := 162) B at_160 ?_
   refine Ow.aload (pc' := 164) B at_162 ?_
   refine Ow.Go.old (fun o847 => ?_)
   have f848 := f767.keep Kh769 Ow.nin0 Ow.nin0
   refine Ow.callVirtual (pc' := 167) (W := 0) (k' := 13) (n' := 58) (argsL := [(.ref r750)]) (rest := []) (K := "java/lang/String") B at_164 (w73 hw) (w74 hw) (w76 hw) (w76 hw) (w75 hw) (w11 hw) (w77 hw) (f848).1 (con_equals_22 hw G GS (pa0 := r750) o847) pd31 ?_
   intro vq849 h850 S851 q849 zh850
   obtain ⟨rfl, rfl, rfl⟩ := q849
   refine Ow.Go.nr (S' := [a754, a704]) (st' := [(.int 1)]) ?_
   exact Ow.retI (S' := []) (t := .boolean) B at_167 (rfl)
  ·obtain ⟨r852, r853, k854, rfl, Kh769, c855, c856, c857, c858, c859, f860, rfl⟩ := q768
   have lr853 : (r853 : Nat) < h769.size := f860.ltt
   have lr852 : (r852 : Nat) < h769.size := f860.lt
   refine Ow.Go.nr (S' := [a754, a704]) (st' := [(.ref r852)]) ?_
   refine Ow.astore (pc' := 71) (Ls' := #[.val (.int x0), .val (.int x1), .val (.int x2), .val (.int x3), .val (.int x4), .val (.int x5), .val (.int 4), .val (.ref a704), .val (.ref r750), .val (.ref r852), .unset, .unset]) B at_69 ?_
   refine Ow.aload (pc' := 73) B at_71 ?_
   refine Ow.iload (pc' := 75) B at_73 ?_
   refine Ow.Go.old (fun o861 => ?_)
   have f862 := V745.keep Kh748 Ow.nin0
   have f863 := f862.keep Kh755 Ow.nin0
   have f864 := f863.keep Kh760 (Ow.ninS (by omega) Ow.nin0)
   have f865 := f864.keep Kh769 Ow.nin0
   refine Ow.callStatic (pc' := 78) (W := 0) (k' := 13) (n' := 58) (argsL := [(.ref a704), (.int 4)]) (rest := []) B at_75 (w70 hw) (w71 hw) (w4 hw) (w72 hw) (con_strip_73 hw G GS (pa0 := a704) (px0 := y710) (px1 := y720) (px2 := y730) (px3 := y740) (pk0 := ka704) o861 f865 (by omega) (c855) (c856) (c857) c713 c723 c733 c743) pd30 ?_
   intro vq866 h867 S868 q866 zh867
   obtain ⟨rfl, rfl, rfl⟩ := q866
   refine Ow.Go.nr (S' := [a754, a704]) (st' := [(.int 2)]) ?_
   refine Ow.istore (pc' := 80) (Ls' := #[.val (.int x0), .val (.int x1), .val (.int x2), .val (.int x3), .val (.int x4), .val (.int x5), .val (.int 4), .val (.ref a704), .val (.ref r750), .val (.ref r852), .val (.int 2), .unset]) B at_78 ?_
   refine Ow.iload (pc' := 82) B at_80 ?_
   refine Ow.ifF (pc' := 85) B at_82 (by decide) ?_
   refine Ow.Go.join (α := Unit) (pc1 := 121) (fun _ => #[.val (.int x0), .val (.int x1), .val (.int x2), .val (.int x3), .val (.int x4), .val (.int x5), .val (.int 4), .val (.ref a704), .val (.ref r750), .val (.ref r852), .val (.int 2), .unset]) (fun _ => []) ?_ ?_
   ·intro _
    refine Ow.aload (pc' := 123) B at_121 ?_
    refine Ow.iload (pc' := 125) B at_123 ?_
    refine Ow.iconst (pc' := 126) (x := 1) B at_125 ?_
    refine Ow.isub (pc' := 127) (z := 1) B at_126 ?_
    refine Ow.Go.old (fun o869 => ?_)
    refine Ow.callStatic (pc' := 130) (W := 0) (k' := 13) (n' := 58) (argsL := [(.ref a704), (.int 1)]) (rest := []) B at_127 (w70 hw) (w71 hw) (w4 hw) (w72 hw) (con_strip_35 hw G GS (pa0 := a704) (px0 := y710) (px1 := y720) (px2 := y730) (px3 := y740) (pk0 := ka704) o869 f865 (by omega) (c859) c713 c723 c733 c743) pd30 ?_
    intro vq870 h871 S872 q870 zh871
    obtain ⟨rfl, rfl, rfl⟩ := q870
    refine Ow.Go.nr (S' := [a754, a704]) (st' := [(.int 0)]) ?_
    refine Ow.istore (pc' := 132) (Ls' := #[.val (.int x0), .val (.int x1), .val (.int x2), .val (.int x3), .val (.int x4), .val (.int x5), .val (.int 4), .val (.ref a704), .val (.ref r750), .val (.ref r852), .val (.int 2), .val (.int 0)]) B at_130 ?_
    refine Ow.aload (pc' := 134) B at_132 ?_
    refine Ow.Go.old (fun o873 => ?_)
    refine Ow.callVirtual (pc' := 137) (W := 0) (k' := 13) (n' := 58) (argsL := []) (rest := []) (K := "java/lang/String") B at_134 (w172 hw) (w52 hw) (w54 hw) (w54 hw) (w53 hw) (w11 hw) (w55 hw) (f860).1 (gLen hw G GS o873 f860 (by simp)) pd21 ?_
    intro vq874 h875 S876 q874 zh875
    obtain ⟨rfl, rfl, rfl⟩ := q874
    refine Ow.Go.nr (S' := [a754, a704]) (st' := [(.int 0)]) ?_
    refine Ow.iload (pc' := 139) B at_137 ?_
    refine Ow.icmpF (pc' := 142) B at_139 (by decide) ?_
    refine Ow.aload (pc' := 144) B at_142 ?_
    refine Ow.aload (pc' := 146) B at_144 ?_
    refine Ow.iload (pc' := 148) B at_146 ?_
    refine Ow.Go.old (fun o877 => ?_)
    refine Ow.callStatic (pc' := 151) (W := 0) (k' := 13) (n' := 58) (argsL := [(.ref r852), (.ref a704), (.int 0)]) (rest := []) B at_148 (w173 hw) (w174 hw) (w4 hw) (w175 hw) (con_prefixEq_37 hw G GS (pa0 := r852) (pa1 := a704) o877) pd35 ?_
    intro vq878 h879 S880 q878 zh879
    obtain ⟨rfl, rfl, rfl⟩ := q878
    refine Ow.Go.nr (S' := [a754, a704]) (st' := [(.int 1)]) ?_
    refine Ow.ifF (pc' := 154) B at_151 (by decide) ?_
    refine Ow.iconst (pc' := 155) (x := 1) B at_154 ?_
    refine Ow.goto (pc' := 159) B at_155 ?_
    exact Ow.retI (S' := []) (t := .boolean) B at_159 (rfl)
   ·intro J881
    rcases c858 with c882 | c882 | c882
    ·refine Ow.aload (pc' := 87) B at_85 ?_
     refine Ow.iload (pc' := 89) B at_87 ?_
     refine Ow.iconst (pc' := 90) (x := 1) B at_89 ?_
     refine Ow.isub (pc' := 91) (z := 1) B at_90 ?_
     refine Ow.caload (pc' := 92) B at_91 f865 ⟨by decide, by decide⟩ rfl ?_
     refine Ow.bipush (pc' := 94) (x := 59) B at_92 ?_
     refine Ow.icmpT (pc' := 121) B at_94 (teq (c882)).1 ?_
     exact J881 ()
    ·refine Ow.aload (pc' := 87) B at_85 ?_
     refine Ow.iload (pc' := 89) B at_87 ?_
     refine Ow.iconst (pc' := 90) (x := 1) B at_89 ?_
     refine Ow.isub (pc' := 91) (z := 1) B at_90 ?_
     refine Ow.caload (pc' := 92) B at_91 f865 ⟨by decide, by decide⟩ rfl ?_
     refine Ow.bipush (pc' := 94) (x := 59) B at_92 ?_
     refine Ow.icmpF (pc' := 97) B at_94 (feq (by rw [c882]; decide)).1 ?_
     refine Ow.aload (pc' := 99) B at_97 ?_
     refine Ow.iload (pc' := 101) B at_99 ?_
     refine Ow.iconst (pc' := 102) (x := 1) B at_101 ?_
     refine Ow.isub (pc' := 103) (z := 1) B at_102 ?_
     refine Ow.caload (pc' := 104) B at_103 f865 ⟨by decide, by decide⟩ rfl ?_
     refine Ow.bipush (pc' := 106) (x := 44) B at_104 ?_
     refine Ow.icmpT (pc' := 121) B at_106 (teq (c882)).1 ?_
     exact J881 ()
    ·refine Ow.aload (pc' := 87) B at_85 ?_
     refine Ow.iload (pc' := 89) B at_87 ?_
     refine Ow.iconst (pc' := 90) (x := 1) B at_89 ?_
     refine Ow.isub (pc' := 91) (z := 1) B at_90 ?_
     refine Ow.caload (pc' := 92) B at_91 f865 ⟨by decide, by decide⟩ rfl ?_
     refine Ow.bipush (pc' := 94) (x := 59) B at_92 ?_
     refine Ow.icmpF (pc' := 97) B at_94 (feq (by rw [c882]; decide)).1 ?_
     refine Ow.aload (pc' := 99) B at_97 ?_
     refine Ow.iload (pc' := 101) B at_99 ?_
     refine Ow.iconst (pc' := 102) (x := 1) B at_101 ?_
     refine Ow.isub (pc' := 103) (z := 1) B at_102 ?_
     refine Ow.caload (pc' := 104) B at_103 f865 ⟨by decide, by decide⟩ rfl ?_
     refine Ow.bipush (pc' := 106) (x := 44) B at_104 ?_
     refine Ow.icmpF (pc' := 109) B at_106 (feq (by rw [c882]; decide)).1 ?_
     refine Ow.aload (pc' := 111) B at_109 ?_
     refine Ow.iload (pc' := 113) B at_111 ?_
     refine Ow.iconst (pc' := 114) (x := 1) B at_113 ?_
     refine Ow.isub (pc' := 115) (z := 1) B at_114 ?_
     refine Ow.caload (pc' := 116) B at_115 f865 ⟨by decide, by decide⟩ rfl ?_
     refine Ow.bipush (pc' := 118) (x := 58) B at_116 ?_
     refine Ow.icmpF (pc' := 121) B at_118 (teq (c882)).2 ?_
     exact J881 ()
  ·obtain ⟨r883, r884, k885, rfl, Kh769, c886, c887, c888, c889, c890, f891, rfl⟩ := q768
   have lr884 : (r884 : Nat) < h769.size := f891.ltt
   have lr883 : (r883 : Nat) < h769.size := f891.lt
   refine Ow.Go.nr (S' := [a754, a704]) (st' := [(.ref r883)]) ?_
   refine Ow.astore (pc' := 71) (Ls' := #[.val (.int x0), .val (.int x1), .val (.int x2), .val (.int x3), .val (.int x4), .val (.int x5), .val (.int 4), .val (.ref a704), .val (.ref r750), .val (.ref r883), .unset, .unset]) B at_69 ?_
   refine Ow.aload (pc' := 73) B at_71 ?_
   refine Ow.iload (pc' := 75) B at_73 ?_
   refine Ow.Go.old (fun o892 => ?_)
   have f893 := V745.keep Kh748 Ow.nin0
   have f894 := f893.keep Kh755 Ow.nin0
   have f895 := f894.keep Kh760 (Ow.ninS (by omega) Ow.nin0)
   have f896 := f895.keep Kh769 Ow.nin0
   refine Ow.callStatic (pc' := 78) (W := 0) (k' := 13) (n' := 58) (argsL := [(.ref a704), (.int 4)]) (rest := []) B at_75 (w70 hw) (w71 hw) (w4 hw) (w72 hw) (con_strip_73 hw G GS (pa0 := a704) (px0 := y710) (px1 := y720) (px2 := y730) (px3 := y740) (pk0 := ka704) o892 f896 (by omega) (c886) (c887) (c888) c713 c723 c733 c743) pd30 ?_
   intro vq897 h898 S899 q897 zh898
   obtain ⟨rfl, rfl, rfl⟩ := q897
   refine Ow.Go.nr (S' := [a754, a704]) (st' := [(.int 2)]) ?_
   refine Ow.istore (pc' := 80) (Ls' := #[.val (.int x0), .val (.int x1), .val (.int x2), .val (.int x3), .val (.int x4), .val (.int x5), .val (.int 4), .val (.ref a704), .val (.ref r750), .val (.ref r883), .val (.int 2), .unset]) B at_78 ?_
   refine Ow.iload (pc' := 82) B at_80 ?_
   refine Ow.ifF (pc' := 85) B at_82 (by decide) ?_
   refine Ow.Go.join (α := Unit) (pc1 := 121) (fun _ => #[.val (.int x0), .val (.int x1), .val (.int x2), .val (.int x3), .val (.int x4), .val (.int x5), .val (.int 4), .val (.ref a704), .val (.ref r750), .val (.ref r883), .val (.int 2), .unset]) (fun _ => []) ?_ ?_
   ·intro _
    refine Ow.aload (pc' := 123) B at_121 ?_
    refine Ow.iload (pc' := 125) B at_123 ?_
    refine Ow.iconst (pc' := 126) (x := 1) B at_125 ?_
    refine Ow.isub (pc' := 127) (z := 1) B at_126 ?_
    refine Ow.Go.old (fun o900 => ?_)
    refine Ow.callStatic (pc' := 130) (W := 0) (k' := 13) (n' := 58) (argsL := [(.ref a704), (.int 1)]) (rest := []) B at_127 (w70 hw) (w71 hw) (w4 hw) (w72 hw) (con_strip_36 hw G GS (pa0 := a704) (px0 := y710) (px1 := y720) (px2 := y730) (px3 := y740) (pk0 := ka704) o900 f896 (by omega) (c890) c713 c723 c733 c743) pd30 ?_
    intro vq901 h902 S903 q901 zh902
    obtain ⟨rfl, rfl, rfl⟩ := q901
    refine Ow.Go.nr (S' := [a754, a704]) (st' := [(.int 1)]) ?_
    refine Ow.istore (pc' := 132) (Ls' := #[.val (.int x0), .val (.int x1), .val (.int x2), .val (.int x3), .val (.int x4), .val (.int x5), .val (.int 4), .val (.ref a704), .val (.ref r750), .val (.ref r883), .val (.int 2), .val (.int 1)]) B at_130 ?_
    refine Ow.aload (pc' := 134) B at_132 ?_
    refine Ow.Go.old (fun o904 => ?_)
    refine Ow.callVirtual (pc' := 137) (W := 0) (k' := 13) (n' := 58) (argsL := []) (rest := []) (K := "java/lang/String") B at_134 (w172 hw) (w52 hw) (w54 hw) (w54 hw) (w53 hw) (w11 hw) (w55 hw) (f891).1 (gLen hw G GS o904 f891 (by simp)) pd21 ?_
    intro vq905 h906 S907 q905 zh906
    obtain ⟨rfl, rfl, rfl⟩ := q905
    refine Ow.Go.nr (S' := [a754, a704]) (st' := [(.int 1)]) ?_
    refine Ow.iload (pc' := 139) B at_137 ?_
    refine Ow.icmpF (pc' := 142) B at_139 (by decide) ?_
    refine Ow.aload (pc' := 144) B at_142 ?_
    refine Ow.aload (pc' := 146) B at_144 ?_
    refine Ow.iload (pc' := 148) B at_146 ?_
    refine Ow.Go.old (fun o908 => ?_)
    refine Ow.callStatic (pc' := 151) (W := 0) (k' := 13) (n' := 58) (argsL := [(.ref r883), (.ref a704), (.int 1)]) (rest := []) B at_148 (w173 hw) (w174 hw) (w4 hw) (w175 hw) (con_prefixEq_47 hw G GS (pa0 := r883) (pa1 := a704) (pa2 := r884) (px0 := y710) (px1 := y720) (px2 := y730) (px3 := y740) (pk0 := k885) (pk1 := ka704) o908 f891 f896 (by omega) c713 c723 c733 c743) pd35 ?_
    intro vq909 h910 S911 q909 zh910
    obtain ⟨rfl, rfl, rfl⟩ := q909
    refine Ow.Go.nr (S' := [a754, a704]) (st' := [(.int 1)]) ?_
    refine Ow.ifF (pc' := 154) B at_151 (by decide) ?_
    refine Ow.iconst (pc' := 155) (x := 1) B at_154 ?_
    refine Ow.goto (pc' := 159) B at_155 ?_
    exact Ow.retI (S' := []) (t := .boolean) B at_159 (rfl)
   ·intro J912
    rcases c889 with c913 | c913 | c913
    ·refine Ow.aload (pc' := 87) B at_85 ?_
     refine Ow.iload (pc' := 89) B at_87 ?_
     refine Ow.iconst (pc' := 90) (x := 1) B at_89 ?_
     refine Ow.isub (pc' := 91) (z := 1) B at_90 ?_
     refine Ow.caload (pc' := 92) B at_91 f896 ⟨by decide, by decide⟩ rfl ?_
     refine Ow.bipush (pc' := 94) (x := 59) B at_92 ?_
     refine Ow.icmpT (pc' := 121) B at_94 (teq (c913)).1 ?_
     exact J912 ()
    ·refine Ow.aload (pc' := 87) B at_85 ?_
     refine Ow.iload (pc' := 89) B at_87 ?_
     refine Ow.iconst (pc' := 90) (x := 1) B at_89 ?_
     refine Ow.isub (pc' := 91) (z := 1) B at_90 ?_
     refine Ow.caload (pc' := 92) B at_91 f896 ⟨by decide, by decide⟩ rfl ?_
     refine Ow.bipush (pc' := 94) (x := 59) B at_92 ?_
     refine Ow.icmpF (pc' := 97) B at_94 (feq (by rw [c913]; decide)).1 ?_
     refine Ow.aload (pc' := 99) B at_97 ?_
     refine Ow.iload (pc' := 101) B at_99 ?_
     refine Ow.iconst (pc' := 102) (x := 1) B at_101 ?_
     refine Ow.isub (pc' := 103) (z := 1) B at_102 ?_
     refine Ow.caload (pc' := 104) B at_103 f896 ⟨by decide, by decide⟩ rfl ?_
     refine Ow.bipush (pc' := 106) (x := 44) B at_104 ?_
     refine Ow.icmpT (pc' := 121) B at_106 (teq (c913)).1 ?_
     exact J912 ()
    ·refine Ow.aload (pc' := 87) B at_85 ?_
     refine Ow.iload (pc' := 89) B at_87 ?_
     refine Ow.iconst (pc' := 90) (x := 1) B at_89 ?_
     refine Ow.isub (pc' := 91) (z := 1) B at_90 ?_
     refine Ow.caload (pc' := 92) B at_91 f896 ⟨by decide, by decide⟩ rfl ?_
     refine Ow.bipush (pc' := 94) (x := 59) B at_92 ?_
     refine Ow.icmpF (pc' := 97) B at_94 (feq (by rw [c913]; decide)).1 ?_
     refine Ow.aload (pc' := 99) B at_97 ?_
     refine Ow.iload (pc' := 101) B at_99 ?_
     refine Ow.iconst (pc' := 102) (x := 1) B at_101 ?_
     refine Ow.isub (pc' := 103) (z := 1) B at_102 ?_
     refine Ow.caload (pc' := 104) B at_103 f896 ⟨by decide, by decide⟩ rfl ?_
     refine Ow.bipush (pc' := 106) (x := 44) B at_104 ?_
     refine Ow.icmpF (pc' := 109) B at_106 (feq (by rw [c913]; decide)).1 ?_
     refine Ow.aload (pc' := 111) B at_109 ?_
     refine Ow.iload (pc' := 113) B at_111 ?_
     refine Ow.iconst (pc' := 114) (x := 1) B at_113 ?_
     refine Ow.isub (pc' := 115) (z := 1) B at_114 ?_
     refine Ow.caload (pc' := 116) B at_115 f896 ⟨by decide, by decide⟩ rfl ?_
     refine Ow.bipush (pc' := 118) (x := 58) B at_116 ?_
     refine Ow.icmpF (pc' := 121) B at_118 (teq (c913)).2 ?_
     exact J912 ()
  ·obtain ⟨rfl, Kh769, c914, c915, c916, rfl⟩ := q768
   refine Ow.Go.nr (S' := [a754, a704]) (st' := [(.ref r750)]) ?_
   refine Ow.astore (pc' := 71) (Ls' := #[.val (.int x0), .val (.int x1), .val (.int x2), .val (.int x3), .val (.int x4), .val (.int x5), .val (.int 4), .val (.ref a704), .val (.ref r750), .val (.ref r750), .unset, .unset]) B at_69 ?_
   refine Ow.aload (pc' := 73) B at_71 ?_
   refine Ow.iload (pc' := 75) B at_73 ?_
   refine Ow.Go.old (fun o917 => ?_)
   have f918 := V745.keep Kh748 Ow.nin0
   have f919 := f918.keep Kh755 Ow.nin0
   have f920 := f919.keep Kh760 (Ow.ninS (by omega) Ow.nin0)
   have f921 := f920.keep Kh769 Ow.nin0
   refine Ow.callStatic (pc' := 78) (W := 0) (k' := 13) (n' := 58) (argsL := [(.ref a704), (.int 4)]) (rest := []) B at_75 (w70 hw) (w71 hw) (w4 hw) (w72 hw) (con_strip_74 hw G GS (pa0 := a704) (px0 := y710) (px1 := y720) (px2 := y730) (px3 := y740) (pk0 := ka704) o917 f921 (by omega) (c914) (c915) c713 c723 c733 c743) pd30 ?_
   intro vq922 h923 S924 q922 zh923
   obtain ⟨rfl, rfl, rfl⟩ := q922
   refine Ow.Go.nr (S' := [a754, a704]) (st' := [(.int 3)]) ?_
   refine Ow.istore (pc' := 80) (Ls' := #[.val (.int x0), .val (.int x1), .val (.int x2), .val (.int x3), .val (.int x4), .val (.int x5), .val (.int 4), .val (.ref a704), .val (.ref r750), .val (.ref r750), .val (.int 3), .unset]) B at_78 ?_
   refine Ow.iload (pc' := 82) B at_80 ?_
   refine Ow.ifF (pc' := 85) B at_82 (by decide) ?_
   refine Ow.aload (pc' := 87) B at_85 ?_
   refine Ow.iload (pc' := 89) B at_87 ?_
   refine Ow.iconst (pc' := 90) (x := 1) B at_89 ?_
   refine Ow.isub (pc' := 91) (z := 2) B at_90 ?_
   refine Ow.caload (pc' := 92) B at_91 f921 ⟨by decide, by decide⟩ rfl ?_
   refine Ow.bipush (pc' := 94) (x := 59) B at_92 ?_
   refine Ow.icmpF (pc' := 97) B at_94 (feq (fun q => c916 (Or.inl q))).1 ?_
   refine Ow.aload (pc' := 99) B at_97 ?_
   refine Ow.iload (pc' := 101) B at_99 ?_
   refine Ow.iconst (pc' := 102) (x := 1) B at_101 ?_
   refine Ow.isub (pc' := 103) (z := 2) B at_102 ?_
   refine Ow.caload (pc' := 104) B at_103 f921 ⟨by decide, by decide⟩ rfl ?_
   refine Ow.bipush (pc' := 106) (x := 44) B at_104 ?_
   refine Ow.icmpF (pc' := 109) B at_106 (feq (fun q => c916 (Or.inr (Or.inl q)))).1 ?_
   refine Ow.aload (pc' := 111) B at_109 ?_
   refine Ow.iload (pc' := 113) B at_111 ?_
   refine Ow.iconst (pc' := 114) (x := 1) B at_113 ?_
   refine Ow.isub (pc' := 115) (z := 2) B at_114 ?_
   refine Ow.caload (pc' := 116) B at_115 f921 ⟨by decide, by decide⟩ rfl ?_
   refine Ow.bipush (pc' := 118) (x := 58) B at_116 ?_
   refine Ow.icmpT (pc' := 160) B at_118 (feq (fun q => c916 (Or.inr (Or.inr q)))).2 ?_
   refine Ow.aload (pc' := 162) B at_160 ?_
   refine Ow.aload (pc' := 164) B at_162 ?_
   refine Ow.Go.old (fun o925 => ?_)
   have f926 := f767.keep Kh769 Ow.nin0 Ow.nin0
   refine Ow.callVirtual (pc' := 167) (W := 0) (k' := 13) (n' := 58) (argsL := [(.ref r750)]) (rest := []) (K := "java/lang/String") B at_164 (w73 hw) (w74 hw) (w76 hw) (w76 hw) (w75 hw) (w11 hw) (w77 hw) (f926).1 (con_equals_22 hw G GS (pa0 := r750) o925) pd31 ?_
   intro vq927 h928 S929 q927 zh928
   obtain ⟨rfl, rfl, rfl⟩ := q927
   refine Ow.Go.nr (S' := [a754, a704]) (st' := [(.int 1)]) ?_
   exact Ow.retI (S' := []) (t := .boolean) B at_167 (rfl)
  ·obtain ⟨r930, r931, k932, rfl, Kh769, c933, c934, c935, c936, c937, f938, rfl⟩ := q768
   have lr931 : (r931 : Nat) < h769.size := f938.ltt
   have lr930 : (r930 : Nat) < h769.size := f938.lt
   refine Ow.Go.nr (S' := [a754, a704]) (st' := [(.ref r930)]) ?_
   refine Ow.astore (pc' := 71) (Ls' := #[.val (.int x0), .val (.int x1), .val (.int x2), .val (.int x3), .val (.int x4), .val (.int x5), .val (.int 4), .val (.ref a704), .val (.ref r750), .val (.ref r930), .unset, .unset]) B at_69 ?_
   refine Ow.aload (pc' := 73) B at_71 ?_
   refine Ow.iload (pc' := 75) B at_73 ?_
   refine Ow.Go.old (fun o939 => ?_)
   have f940 := V745.keep Kh748 Ow.nin0
   have f941 := f940.keep Kh755 Ow.nin0
   have f942 := f941.keep Kh760 (Ow.ninS (by omega) Ow.nin0)
   have f943 := f942.keep Kh769 Ow.nin0
   refine Ow.callStatic (pc' := 78) (W := 0) (k' := 13) (n' := 58) (argsL := [(.ref a704), (.int 4)]) (rest := []) B at_75 (w70 hw) (w71 hw) (w4 hw) (w72 hw) (con_strip_74 hw G GS (pa0 := a704) (px0 := y710) (px1 := y720) (px2 := y730) (px3 := y740) (pk0 := ka704) o939 f943 (by omega) (c933) (c934) c713 c723 c733 c743) pd30 ?_
   intro vq944 h945 S946 q944 zh945
   obtain ⟨rfl, rfl, rfl⟩ := q944
   refine Ow.Go.nr (S' := [a754, a704]) (st' := [(.int 3)]) ?_
   refine Ow.istore (pc' := 80) (Ls' := #[.val (.int x0), .val (.int x1), .val (.int x2), .val (.int x3), .val (.int x4), .val (.int x5), .val (.int 4), .val (.ref a704), .val (.ref r750), .val (.ref r930), .val (.int 3), .unset]) B at_78 ?_
   refine Ow.iload (pc' := 82) B at_80 ?_
   refine Ow.ifF (pc' := 85) B at_82 (by decide) ?_
   refine Ow.Go.join (α := Unit) (pc1 := 121) (fun _ => #[.val (.int x0), .val (.int x1), .val (.int x2), .val (.int x3), .val (.int x4), .val (.int x5), .val (.int 4), .val (.ref a704), .val (.ref r750), .val (.ref r930), .val (.int 3), .unset]) (fun _ => []) ?_ ?_
   ·intro _
    refine Ow.aload (pc' := 123) B at_121 ?_
    refine Ow.iload (pc' := 125) B at_123 ?_
    refine Ow.iconst (pc' := 126) (x := 1) B at_125 ?_
    refine Ow.isub (pc' := 127) (z := 2) B at_126 ?_
    refine Ow.Go.old (fun o947 => ?_)
    refine Ow.callStatic (pc' := 130) (W := 0) (k' := 13) (n' := 58) (argsL := [(.ref a704), (.int 2)]) (rest := []) B at_127 (w70 hw) (w71 hw) (w4 hw) (w72 hw) (con_strip_44 hw G GS (pa0 := a704) (px0 := y710) (px1 := y720) (px2 := y730) (px3 := y740) (pk0 := ka704) o947 f943 (by omega) (c936) (c937) c713 c723 c733 c743) pd30 ?_
    intro vq948 h949 S950 q948 zh949
    obtain ⟨rfl, rfl, rfl⟩ := q948
    refine Ow.Go.nr (S' := [a754, a704]) (st' := [(.int 0)]) ?_
    refine Ow.istore (pc' := 132) (Ls' := #[.val (.int x0), .val (.int x1), .val (.int x2), .val (.int x3), .val (.int x4), .val (.int x5), .val (.int 4), .val (.ref a704), .val (.ref r750), .val (.ref r930), .val (.int 3), .val (.int 0)]) B at_130 ?_
    refine Ow.aload (pc' := 134) B at_132 ?_
    refine Ow.Go.old (fun o951 => ?_)
    refine Ow.callVirtual (pc' := 137) (W := 0) (k' := 13) (n' := 58) (argsL := []) (rest := []) (K := "java/lang/String") B at_134 (w172 hw) (w52 hw) (w54 hw) (w54 hw) (w53 hw) (w11 hw) (w55 hw) (f938).1 (gLen hw G GS o951 f938 (by simp)) pd21 ?_
    intro vq952 h953 S954 q952 zh953
    obtain ⟨rfl, rfl, rfl⟩ := q952
    refine Ow.Go.nr (S' := [a754, a704]) (st' := [(.int 0)]) ?_
    refine Ow.iload (pc' := 139) B at_137 ?_
    refine Ow.icmpF (pc' := 142) B at_139 (by decide) ?_
    refine Ow.aload (pc' := 144) B at_142 ?_
    refine Ow.aload (pc' := 146) B at_144 ?_
    refine Ow.iload (pc' := 148) B at_146 ?_
    refine Ow.Go.old (fun o955 => ?_)
    refine Ow.callStatic (pc' := 151) (W := 0) (k' := 13) (n' := 58) (argsL := [(.ref r930), (.ref a704), (.int 0)]) (rest := []) B at_148 (w173 hw) (w174 hw) (w4 hw) (w175 hw) (con_prefixEq_37 hw G GS (pa0 := r930) (pa1 := a704) o955) pd35 ?_
    intro vq956 h957 S958 q956 zh957
    obtain ⟨rfl, rfl, rfl⟩ := q956
    refine Ow.Go.nr (S' := [a754, a704]) (st' := [(.int 1)]) ?_
    refine Ow.ifF (pc' := 154) B at_151 (by decide) ?_
    refine Ow.iconst (pc' := 155) (x := 1) B at_154 ?_
    refine Ow.goto (pc' := 159) B at_155 ?_
    exact Ow.retI (S' := []) (t := .boolean) B at_159 (rfl)
   ·intro J959
    rcases c935 with c960 | c960 | c960
    ·refine Ow.aload (pc' := 87) B at_85 ?_
     refine Ow.iload (pc' := 89) B at_87 ?_
     refine Ow.iconst (pc' := 90) (x := 1) B at_89 ?_
     refine Ow.isub (pc' := 91) (z := 2) B at_90 ?_
     refine Ow.caload (pc' := 92) B at_91 f943 ⟨by decide, by decide⟩ rfl ?_
     refine Ow.bipush (pc' := 94) (x := 59) B at_92 ?_
     refine Ow.icmpT (pc' := 121) B at_94 (teq (c960)).1 ?_
     exact J959 ()
    ·refine Ow.aload (pc' := 87) B at_85 ?_
     refine Ow.iload (pc' := 89) B at_87 ?_
     refine Ow.iconst (pc' := 90) (x := 1) B at_89 ?_
     refine Ow.isub (pc' := 91) (z := 2) B at_90 ?_
     refine Ow.caload (pc' := 92) B at_91 f943 ⟨by decide, by decide⟩ rfl ?_
     refine Ow.bipush (pc' := 94) (x := 59) B at_92 ?_
     refine Ow.icmpF (pc' := 97) B at_94 (feq (by rw [c960]; decide)).1 ?_
     refine Ow.aload (pc' := 99) B at_97 ?_
     refine Ow.iload (pc' := 101) B at_99 ?_
     refine Ow.iconst (pc' := 102) (x := 1) B at_101 ?_
     refine Ow.isub (pc' := 103) (z := 2) B at_102 ?_
     refine Ow.caload (pc' := 104) B at_103 f943 ⟨by decide, by decide⟩ rfl ?_
     refine Ow.bipush (pc' := 106) (x := 44) B at_104 ?_
     refine Ow.icmpT (pc' := 121) B at_106 (teq (c960)).1 ?_
     exact J959 ()
    ·refine Ow.aload (pc' := 87) B at_85 ?_
     refine Ow.iload (pc' := 89) B at_87 ?_
     refine Ow.iconst (pc' := 90) (x := 1) B at_89 ?_
     refine Ow.isub (pc' := 91) (z := 2) B at_90 ?_
     refine Ow.caload (pc' := 92) B at_91 f943 ⟨by decide, by decide⟩ rfl ?_
     refine Ow.bipush (pc' := 94) (x := 59) B at_92 ?_
     refine Ow.icmpF (pc' := 97) B at_94 (feq (by rw [c960]; decide)).1 ?_
     refine Ow.aload (pc' := 99) B at_97 ?_
     refine Ow.iload (pc' := 101) B at_99 ?_
     refine Ow.iconst (pc' := 102) (x := 1) B at_101 ?_
     refine Ow.isub (pc' := 103) (z := 2) B at_102 ?_
     refine Ow.caload (pc' := 104) B at_103 f943 ⟨by decide, by decide⟩ rfl ?_
     refine Ow.bipush (pc' := 106) (x := 44) B at_104 ?_
     refine Ow.icmpF (pc' := 109) B at_106 (feq (by rw [c960]; decide)).1 ?_
     refine Ow.aload (pc' := 111) B at_109 ?_
     refine Ow.iload (pc' := 113) B at_111 ?_
     refine Ow.iconst (pc' := 114) (x := 1) B at_113 ?_
     refine Ow.isub (pc' := 115) (z := 2) B at_114 ?_
     refine Ow.caload (pc' := 116) B at_115 f943 ⟨by decide, by decide⟩ rfl ?_
     refine Ow.bipush (pc' := 118) (x := 58) B at_116 ?_
     refine Ow.icmpF (pc' := 121) B at_118 (teq (c960)).2 ?_
     exact J959 ()
  ·obtain ⟨r961, r962, k963, rfl, Kh769, c964, c965, c966, c967, c968, f969, rfl⟩ := q768
   have lr962 : (r962 : Nat) < h769.size := f969.ltt
   have lr961 : (r961 : Nat) < h769.size := f969.lt
   refine Ow.Go.nr (S' := [a754, a704]) (st' := [(.ref r961)]) ?_
   refine Ow.astore (pc' := 71) (Ls' := #[.val (.int x0), .val (.int x1), .val (.int x2), .val (.int x3), .val (.int x4), .val (.int x5), .val (.int 4), .val (.ref a704), .val (.ref r750), .val (.ref r961), .unset, .unset]) B at_69 ?_
   refine Ow.aload (pc' := 73) B at_71 ?_
   refine Ow.iload (pc' := 75) B at_73 ?_
   refine Ow.Go.old (fun o970 => ?_)
   have f971 := V745.keep Kh748 Ow.nin0
   have f972 := f971.keep Kh755 Ow.nin0
   have f973 := f972.keep Kh760 (Ow.ninS (by omega) Ow.nin0)
   have f974 := f973.keep Kh769 Ow.nin0
   refine Ow.callStatic (pc' := 78) (W := 0) (k' := 13) (n' := 58) (argsL := [(.ref a704), (.int 4)]) (rest := []) B at_75 (w70 hw) (w71 hw) (w4 hw) (w72 hw) (con_strip_74 hw G GS (pa0 := a704) (px0 := y710) (px1 := y720) (px2 := y730) (px3 := y740) (pk0 := ka704) o970 f974 (by omega) (c964) (c965) c713 c723 c733 c743) pd30 ?_
   intro vq975 h976 S977 q975 zh976
   obtain ⟨rfl, rfl, rfl⟩ := q975
   refine Ow.Go.nr (S' := [a754, a704]) (st' := [(.int 3)]) ?_
   refine Ow.istore (pc' := 80) (Ls' := #[.val (.int x0), .val (.int x1), .val (.int x2), .val (.int x3), .val (.int x4), .val (.int x5), .val (.int 4), .val (.ref a704), .val (.ref r750), .val (.ref r961), .val (.int 3), .unset]) B at_78 ?_
   refine Ow.iload (pc' := 82) B at_80 ?_
   refine Ow.ifF (pc' := 85) B at_82 (by decide) ?_
   refine Ow.Go.join (α := Unit) (pc1 := 121) (fun _ => #[.val (.int x0), .val (.int x1), .val (.int x2), .val (.int x3), .val (.int x4), .val (.int x5), .val (.int 4), .val (.ref a704), .val (.ref r750), .val (.ref r961), .val (.int 3), .unset]) (fun _ => []) ?_ ?_
   ·intro _
    refine Ow.aload (pc' := 123) B at_121 ?_
    refine Ow.iload (pc' := 125) B at_123 ?_
    refine Ow.iconst (pc' := 126) (x := 1) B at_125 ?_
    refine Ow.isub (pc' := 127) (z := 2) B at_126 ?_
    refine Ow.Go.old (fun o978 => ?_)
    refine Ow.callStatic (pc' := 130) (W := 0) (k' := 13) (n' := 58) (argsL := [(.ref a704), (.int 2)]) (rest := []) B at_127 (w70 hw) (w71 hw) (w4 hw) (w72 hw) (con_strip_45 hw G GS (pa0 := a704) (px0 := y710) (px1 := y720) (px2 := y730) (px3 := y740) (pk0 := ka704) o978 f974 (by omega) (c967) (c968) c713 c723 c733 c743) pd30 ?_
    intro vq979 h980 S981 q979 zh980
    obtain ⟨rfl, rfl, rfl⟩ := q979
    refine Ow.Go.nr (S' := [a754, a704]) (st' := [(.int 1)]) ?_
    refine Ow.istore (pc' := 132) (Ls' := #[.val (.int x0), .val (.int x1), .val (.int x2), .val (.int x3), .val (.int x4), .val (.int x5), .val (.int 4), .val (.ref a704), .val (.ref r750), .val (.ref r961), .val (.int 3), .val (.int 1)]) B at_130 ?_
    refine Ow.aload (pc' := 134) B at_132 ?_
    refine Ow.Go.old (fun o982 => ?_)
    refine Ow.callVirtual (pc' := 137) (W := 0) (k' := 13) (n' := 58) (argsL := []) (rest := []) (K := "java/lang/String") B at_134 (w172 hw) (w52 hw) (w54 hw) (w54 hw) (w53 hw) (w11 hw) (w55 hw) (f969).1 (gLen hw G GS o982 f969 (by simp)) pd21 ?_
    intro vq983 h984 S985 q983 zh984
    obtain ⟨rfl, rfl, rfl⟩ := q983
    refine Ow.Go.nr (S' := [a754, a704]) (st' := [(.int 1)]) ?_
    refine Ow.iload (pc' := 139) B at_137 ?_
    refine Ow.icmpF (pc' := 142) B at_139 (by decide) ?_
    refine Ow.aload (pc' := 144) B at_142 ?_
    refine Ow.aload (pc' := 146) B at_144 ?_
    refine Ow.iload (pc' := 148) B at_146 ?_
    refine Ow.Go.old (fun o986 => ?_)
    refine Ow.callStatic (pc' := 151) (W := 0) (k' := 13) (n' := 58) (argsL := [(.ref r961), (.ref a704), (.int 1)]) (rest := []) B at_148 (w173 hw) (w174 hw) (w4 hw) (w175 hw) (con_prefixEq_47 hw G GS (pa0 := r961) (pa1 := a704) (pa2 := r962) (px0 := y710) (px1 := y720) (px2 := y730) (px3 := y740) (pk0 := k963) (pk1 := ka704) o986 f969 f974 (by omega) c713 c723 c733 c743) pd35 ?_
    intro vq987 h988 S989 q987 zh988
    obtain ⟨rfl, rfl, rfl⟩ := q987
    refine Ow.Go.nr (S' := [a754, a704]) (st' := [(.int 1)]) ?_
    refine Ow.ifF (pc' := 154) B at_151 (by decide) ?_
    refine Ow.iconst (pc' := 155) (x := 1) B at_154 ?_
    refine Ow.goto (pc' := 159) B at_155 ?_
    exact Ow.retI (S' := []) (t := .boolean) B at_159 (rfl)
   ·intro J990
    rcases c966 with c991 | c991 | c991
    ·refine Ow.aload (pc' := 87) B at_85 ?_
     refine Ow.iload (pc' := 89) B at_87 ?_
     refine Ow.iconst (pc' := 90) (x := 1) B at_89 ?_
     refine Ow.isub (pc' := 91) (z := 2) B at_90 ?_
     refine Ow.caload (pc' := 92) B at_91 f974 ⟨by decide, by decide⟩ rfl ?_
     refine Ow.bipush (pc' := 94) (x := 59) B at_92 ?_
     refine Ow.icmpT (pc' := 121) B at_94 (teq (c991)).1 ?_
     exact J990 ()
    ·refine Ow.aload (pc' := 87) B at_85 ?_
     refine Ow.iload (pc' := 89) B at_87 ?_
     refine Ow.iconst (pc' := 90) (x := 1) B at_89 ?_
     refine Ow.isub (pc' := 91) (z := 2) B at_90 ?_
     refine Ow.caload (pc' := 92) B at_91 f974 ⟨by decide, by decide⟩ rfl ?_
     refine Ow.bipush (pc' := 94) (x := 59) B at_92 ?_
     refine Ow.icmpF (pc' := 97) B at_94 (feq (by rw [c991]; decide)).1 ?_
     refine Ow.aload (pc' := 99) B at_97 ?_
     refine Ow.iload (pc' := 101) B at_99 ?_
     refine Ow.iconst (pc' := 102) (x := 1) B at_101 ?_
     refine Ow.isub (pc' := 103) (z := 2) B at_102 ?_
     refine Ow.caload (pc' := 104) B at_103 f974 ⟨by decide, by decide⟩ rfl ?_
     refine Ow.bipush (pc' := 106) (x := 44) B at_104 ?_
     refine Ow.icmpT (pc' := 121) B at_106 (teq (c991)).1 ?_
     exact J990 ()
    ·refine Ow.aload (pc' := 87) B at_85 ?_
     refine Ow.iload (pc' := 89) B at_87 ?_
     refine Ow.iconst (pc' := 90) (x := 1) B at_89 ?_
     refine Ow.isub (pc' := 91) (z := 2) B at_90 ?_
     refine Ow.caload (pc' := 92) B at_91 f974 ⟨by decide, by decide⟩ rfl ?_
     refine Ow.bipush (pc' := 94) (x := 59) B at_92 ?_
     refine Ow.icmpF (pc' := 97) B at_94 (feq (by rw [c991]; decide)).1 ?_
     refine Ow.aload (pc' := 99) B at_97 ?_
     refine Ow.iload (pc' := 101) B at_99 ?_
     refine Ow.iconst (pc' := 102) (x := 1) B at_101 ?_
     refine Ow.isub (pc' := 103) (z := 2) B at_102 ?_
     refine Ow.caload (pc' := 104) B at_103 f974 ⟨by decide, by decide⟩ rfl ?_
     refine Ow.bipush (pc' := 106) (x := 44) B at_104 ?_
     refine Ow.icmpF (pc' := 109) B at_106 (feq (by rw [c991]; decide)).1 ?_
     refine Ow.aload (pc' := 111) B at_109 ?_
     refine Ow.iload (pc' := 113) B at_111 ?_
     refine Ow.iconst (pc' := 114) (x := 1) B at_113 ?_
     refine Ow.isub (pc' := 115) (z := 2) B at_114 ?_
     refine Ow.caload (pc' := 116) B at_115 f974 ⟨by decide, by decide⟩ rfl ?_
     refine Ow.bipush (pc' := 118) (x := 58) B at_116 ?_
     refine Ow.icmpF (pc' := 121) B at_118 (teq (c991)).2 ?_
     exact J990 ()
  ·obtain ⟨r992, r993, k994, rfl, Kh769, c995, c996, c997, c998, f999, rfl⟩ := q768
   have lr993 : (r993 : Nat) < h769.size := f999.ltt
   have lr992 : (r992 : Nat) < h769.size := f999.lt
   refine Ow.Go.nr (S' := [a754, a704]) (st' := [(.ref r992)]) ?_
   refine Ow.astore (pc' := 71) (Ls' := #[.val (.int x0), .val (.int x1), .val (.int x2), .val (.int x3), .val (.int x4), .val (.int x5), .val (.int 4), .val (.ref a704), .val (.ref r750), .val (.ref r992), .unset, .unset]) B at_69 ?_
   refine Ow.aload (pc' := 73) B at_71 ?_
   refine Ow.iload (pc' := 75) B at_73 ?_
   refine Ow.Go.old (fun o1000 => ?_)
   have f1001 := V745.keep Kh748 Ow.nin0
   have f1002 := f1001.keep Kh755 Ow.nin0
   have f1003 := f1002.keep Kh760 (Ow.ninS (by omega) Ow.nin0)
   have f1004 := f1003.keep Kh769 Ow.nin0
   refine Ow.callStatic (pc' := 78) (W := 0) (k' := 13) (n' := 58) (argsL := [(.ref a704), (.int 4)]) (rest := []) B at_75 (w70 hw) (w71 hw) (w4 hw) (w72 hw) (con_strip_74 hw G GS (pa0 := a704) (px0 := y710) (px1 := y720) (px2 := y730) (px3 := y740) (pk0 := ka704) o1000 f1004 (by omega) (c995) (c996) c713 c723 c733 c743) pd30 ?_
   intro vq1005 h1006 S1007 q1005 zh1006
   obtain ⟨rfl, rfl, rfl⟩ := q1005
   refine Ow.Go.nr (S' := [a754, a704]) (st' := [(.int 3)]) ?_
   refine Ow.istore (pc' := 80) (Ls' := #[.val (.int x0), .val (.int x1), .val (.int x2), .val (.int x3), .val (.int x4), .val (.int x5), .val (.int 4), .val (.ref a704), .val (.ref r750), .val (.ref r992), .val (.int 3), .unset]) B at_78 ?_
   refine Ow.iload (pc' := 82) B at_80 ?_
   refine Ow.ifF (pc' := 85) B at_82 (by decide) ?_
   refine Ow.Go.join (α := Unit) (pc1 := 121) (fun _ => #[.val (.int x0), .val (.int x1), .val (.int x2), .val (.int x3), .val (.int x4), .val (.int x5), .val (.int 4), .val (.ref a704), .val (.ref r750), .val (.ref r992), .val (.int 3), .unset]) (fun _ => []) ?_ ?_
   ·intro _
    refine Ow.aload (pc' := 123) B at_121 ?_
    refine Ow.iload (pc' := 125) B at_123 ?_
    refine Ow.iconst (pc' := 126) (x := 1) B at_125 ?_
    refine Ow.isub (pc' := 127) (z := 2) B at_126 ?_
    refine Ow.Go.old (fun o1008 => ?_)
    refine Ow.callStatic (pc' := 130) (W := 0) (k' := 13) (n' := 58) (argsL := [(.ref a704), (.int 2)]) (rest := []) B at_127 (w70 hw) (w71 hw) (w4 hw) (w72 hw) (con_strip_46 hw G GS (pa0 := a704) (px0 := y710) (px1 := y720) (px2 := y730) (px3 := y740) (pk0 := ka704) o1008 f1004 (by omega) (c998) c713 c723 c733 c743) pd30 ?_
    intro vq1009 h1010 S1011 q1009 zh1010
    obtain ⟨rfl, rfl, rfl⟩ := q1009
    refine Ow.Go.nr (S' := [a754, a704]) (st' := [(.int 2)]) ?_
    refine Ow.istore (pc' := 132) (Ls' := #[.val (.int x0), .val (.int x1), .val (.int x2), .val (.int x3), .val (.int x4), .val (.int x5), .val (.int 4), .val (.ref a704), .val (.ref r750), .val (.ref r992), .val (.int 3), .val (.int 2)]) B at_130 ?_
    refine Ow.aload (pc' := 134) B at_132 ?_
    refine Ow.Go.old (fun o1012 => ?_)
    refine Ow.callVirtual (pc' := 137) (W := 0) (k' := 13) (n' := 58) (argsL := []) (rest := []) (K := "java/lang/String") B at_134 (w172 hw) (w52 hw) (w54 hw) (w54 hw) (w53 hw) (w11 hw) (w55 hw) (f999).1 (gLen hw G GS o1012 f999 (by simp)) pd21 ?_
    intro vq1013 h1014 S1015 q1013 zh1014
    obtain ⟨rfl, rfl, rfl⟩ := q1013
    refine Ow.Go.nr (S' := [a754, a704]) (st' := [(.int 2)]) ?_
    refine Ow.iload (pc' := 139) B at_137 ?_
    refine Ow.icmpF (pc' := 142) B at_139 (by decide) ?_
    refine Ow.aload (pc' := 144) B at_142 ?_
    refine Ow.aload (pc' := 146) B at_144 ?_
    refine Ow.iload (pc' := 148) B at_146 ?_
    refine Ow.Go.old (fun o1016 => ?_)
    refine Ow.callStatic (pc' := 151) (W := 0) (k' := 13) (n' := 58) (argsL := [(.ref r992), (.ref a704), (.int 2)]) (rest := []) B at_148 (w173 hw) (w174 hw) (w4 hw) (w175 hw) (con_prefixEq_60 hw G GS (pa0 := r992) (pa1 := a704) (pa2 := r993) (px0 := y710) (px1 := y720) (px2 := y730) (px3 := y740) (pk0 := k994) (pk1 := ka704) o1016 f999 f1004 (by omega) c713 c723 c733 c743) pd35 ?_
    intro vq1017 h1018 S1019 q1017 zh1018
    obtain ⟨rfl, rfl, rfl⟩ := q1017
    refine Ow.Go.nr (S' := [a754, a704]) (st' := [(.int 1)]) ?_
    refine Ow.ifF (pc' := 154) B at_151 (by decide) ?_
    refine Ow.iconst (pc' := 155) (x := 1) B at_154 ?_
    refine Ow.goto (pc' := 159) B at_155 ?_
    exact Ow.retI (S' := []) (t := .boolean) B at_159 (rfl)
   ·intro J1020
    rcases c997 with c1021 | c1021 | c1021
    ·refine Ow.aload (pc' := 87) B at_85 ?_
     refine Ow.iload (pc' := 89) B at_87 ?_
     refine Ow.iconst (pc' := 90) (x := 1) B at_89 ?_
     refine Ow.isub (pc' := 91) (z := 2) B at_90 ?_
     refine Ow.caload (pc' := 92) B at_91 f1004 ⟨by decide, by decide⟩ rfl ?_
     refine Ow.bipush (pc' := 94) (x := 59) B at_92 ?_
     refine Ow.icmpT (pc' := 121) B at_94 (teq (c1021)).1 ?_
     exact J1020 ()
    ·refine Ow.aload (pc' := 87) B at_85 ?_
     refine Ow.iload (pc' := 89) B at_87 ?_
     refine Ow.iconst (pc' := 90) (x := 1) B at_89 ?_
     refine Ow.isub (pc' := 91) (z := 2) B at_90 ?_
     refine Ow.caload (pc' := 92) B at_91 f1004 ⟨by decide, by decide⟩ rfl ?_
     refine Ow.bipush (pc' := 94) (x := 59) B at_92 ?_
     refine Ow.icmpF (pc' := 97) B at_94 (feq (by rw [c1021]; decide)).1 ?_
     refine Ow.aload (pc' := 99) B at_97 ?_
     refine Ow.iload (pc' := 101) B at_99 ?_
     refine Ow.iconst (pc' := 102) (x := 1) B at_101 ?_
     refine Ow.isub (pc' := 103) (z := 2) B at_102 ?_
     refine Ow.caload (pc' := 104) B at_103 f1004 ⟨by decide, by decide⟩ rfl ?_
     refine Ow.bipush (pc' := 106) (x := 44) B at_104 ?_
     refine Ow.icmpT (pc' := 121) B at_106 (teq (c1021)).1 ?_
     exact J1020 ()
    ·refine Ow.aload (pc' := 87) B at_85 ?_
     refine Ow.iload (pc' := 89) B at_87 ?_
     refine Ow.iconst (pc' := 90) (x := 1) B at_89 ?_
     refine Ow.isub (pc' := 91) (z := 2) B at_90 ?_
     refine Ow.caload (pc' := 92) B at_91 f1004 ⟨by decide, by decide⟩ rfl ?_
     refine Ow.bipush (pc' := 94) (x := 59) B at_92 ?_
     refine Ow.icmpF (pc' := 97) B at_94 (feq (by rw [c1021]; decide)).1 ?_
     refine Ow.aload (pc' := 99) B at_97 ?_
     refine Ow.iload (pc' := 101) B at_99 ?_
     refine Ow.iconst (pc' := 102) (x := 1) B at_101 ?_
     refine Ow.isub (pc' := 103) (z := 2) B at_102 ?_
     refine Ow.caload (pc' := 104) B at_103 f1004 ⟨by decide, by decide⟩ rfl ?_
     refine Ow.bipush (pc' := 106) (x := 44) B at_104 ?_
     refine Ow.icmpF (pc' := 109) B at_106 (feq (by rw [c1021]; decide)).1 ?_
     refine Ow.aload (pc' := 111) B at_109 ?_
     refine Ow.iload (pc' := 113) B at_111 ?_
     refine Ow.iconst (pc' := 114) (x := 1) B at_113 ?_
     refine Ow.isub (pc' := 115) (z := 2) B at_114 ?_
     refine Ow.caload (pc' := 116) B at_115 f1004 ⟨by decide, by decide⟩ rfl ?_
     refine Ow.bipush (pc' := 118) (x := 58) B at_116 ?_
     refine Ow.icmpF (pc' := 121) B at_118 (teq (c1021)).2 ?_
     exact J1020 ()
  ·obtain ⟨rfl, Kh769, c1022, c1023, rfl⟩ := q768
   refine Ow.Go.nr (S' := [a754, a704]) (st' := [(.ref r750)]) ?_
   refine Ow.astore (pc' := 71) (Ls' := #[.val (.int x0), .val (.int x1), .val (.int x2), .val (.int x3), .val (.int x4), .val (.int x5), .val (.int 4), .val (.ref a704), .val (.ref r750), .val (.ref r750), .unset, .unset]) B at_69 ?_
   refine Ow.aload (pc' := 73) B at_71 ?_
   refine Ow.iload (pc' := 75) B at_73 ?_
   refine Ow.Go.old (fun o1024 => ?_)
   have f1025 := V745.keep Kh748 Ow.nin0
   have f1026 := f1025.keep Kh755 Ow.nin0
   have f1027 := f1026.keep Kh760 (Ow.ninS (by omega) Ow.nin0)
   have f1028 := f1027.keep Kh769 Ow.nin0
   refine Ow.callStatic (pc' := 78) (W := 0) (k' := 13) (n' := 58) (argsL := [(.ref a704), (.int 4)]) (rest := []) B at_75 (w70 hw) (w71 hw) (w4 hw) (w72 hw) (con_strip_75 hw G GS (pa0 := a704) (px0 := y710) (px1 := y720) (px2 := y730) (px3 := y740) (pk0 := ka704) o1024 f1028 (by omega) (c1022) c713 c723 c733 c743) pd30 ?_
   intro vq1029 h1030 S1031 q1029 zh1030
   obtain ⟨rfl, rfl, rfl⟩ := q1029
   refine Ow.Go.nr (S' := [a754, a704]) (st' := [(.int 4)]) ?_
   refine Ow.istore (pc' := 80) (Ls' := #[.val (.int x0), .val (.int x1), .val (.int x2), .val (.int x3), .val (.int x4), .val (.int x5), .val (.int 4), .val (.ref a704), .val (.ref r750), .val (.ref r750), .val (.int 4), .unset]) B at_78 ?_
   refine Ow.iload (pc' := 82) B at_80 ?_
   refine Ow.ifF (pc' := 85) B at_82 (by decide) ?_
   refine Ow.aload (pc' := 87) B at_85 ?_
   refine Ow.iload (pc' := 89) B at_87 ?_
   refine Ow.iconst (pc' := 90) (x := 1) B at_89 ?_
   refine Ow.isub (pc' := 91) (z := 3) B at_90 ?_
   refine Ow.caload (pc' := 92) B at_91 f1028 ⟨by decide, by decide⟩ rfl ?_
   refine Ow.bipush (pc' := 94) (x := 59) B at_92 ?_
   refine Ow.icmpF (pc' := 97) B at_94 (feq (fun q => c1023 (Or.inl q))).1 ?_
   refine Ow.aload (pc' := 99) B at_97 ?_
   refine Ow.iload (pc' := 101) B at_99 ?_
   refine Ow.iconst (pc' := 102) (x := 1) B at_101 ?_
   refine Ow.isub (pc' := 103) (z := 3) B at_102 ?_
   refine Ow.caload (pc' := 104) B at_103 f1028 ⟨by decide, by decide⟩ rfl ?_
   refine Ow.bipush (pc' := 106) (x := 44) B at_104 ?_
   refine Ow.icmpF (pc' := 109) B at_106 (feq (fun q => c1023 (Or.inr (Or.inl q)))).1 ?_
   refine Ow.aload (pc' := 111) B at_109 ?_
   refine Ow.iload (pc' := 113) B at_111 ?_
   refine Ow.iconst (pc' := 114) (x := 1) B at_113 ?_
   refine Ow.isub (pc' := 115) (z := 3) B at_114 ?_
   refine Ow.caload (pc' := 116) B at_115 f1028 ⟨by decide, by decide⟩ rfl ?_
   refine Ow.bipush (pc' := 118) (x := 58) B at_116 ?_
   refine Ow.icmpT (pc' := 160) B at_118 (feq (fun q => c1023 (Or.inr (Or.inr q)))).2 ?_
   refine Ow.aload (pc' := 162) B at_160 ?_
   refine Ow.aload (pc' := 164) B at_162 ?_
   refine Ow.Go.old (fun o1032 => ?_)
   have f1033 := f767.keep Kh769 Ow.nin0 Ow.nin0
   refine Ow.callVirtual (pc' := 167) (W := 0) (k' := 13) (n' := 58) (argsL := [(.ref r750)]) (rest := []) (K := "java/lang/String") B at_164 (w73 hw) (w74 hw) (w76 hw) (w76 hw) (w75 hw) (w11 hw) (w77 hw) (f1033).1 (con_equals_22 hw G GS (pa0 := r750) o1032) pd31 ?_
   intro vq1034 h1035 S1036 q1034 zh1035
   obtain ⟨rfl, rfl, rfl⟩ := q1034
   refine Ow.Go.nr (S' := [a754, a704]) (st' := [(.int 1)]) ?_
   exact Ow.retI (S' := []) (t := .boolean) B at_167 (rfl)
  ·obtain ⟨r1037, r1038, k1039, rfl, Kh769, c1040, c1041, c1042, c1043, c1044, f1045, rfl⟩ := q768
   have lr1038 : (r1038 : Nat) < h769.size := f1045.ltt
   have lr1037 : (r1037 : Nat) < h769.size := f1045.lt
   refine Ow.Go.nr (S' := [a754, a704]) (st' := [(.ref r1037)]) ?_
   refine Ow.astore (pc' := 71) (Ls' := #[.val (.int x0), .val (.int x1), .val (.int x2), .val (.int x3), .val (.int x4), .val (.int x5), .val (.int 4), .val (.ref a704), .val (.ref r750), .val (.ref r1037), .unset, .unset]) B at_69 ?_
   refine Ow.aload (pc' := 73) B at_71 ?_
   refine Ow.iload (pc' := 75) B at_73 ?_
   refine Ow.Go.old (fun o1046 => ?_)
   have f1047 := V745.keep Kh748 Ow.nin0
   have f1048 := f1047.keep Kh755 Ow.nin0
   have f1049 := f1048.keep Kh760 (Ow.ninS (by omega) Ow.nin0)
   have f1050 := f1049.keep Kh769 Ow.nin0
   refine Ow.callStatic (pc' := 78) (W := 0) (k' := 13) (n' := 58) (argsL := [(.ref a704), (.int 4)]) (rest := []) B at_75 (w70 hw) (w71 hw) (w4 hw) (w72 hw) (con_strip_75 hw G GS (pa0 := a704) (px0 := y710) (px1 := y720) (px2 := y730) (px3 := y740) (pk0 := ka704) o1046 f1050 (by omega) (c1040) c713 c723 c733 c743) pd30 ?_
   intro vq1051 h1052 S1053 q1051 zh1052
   obtain ⟨rfl, rfl, rfl⟩ := q1051
   refine Ow.Go.nr (S' := [a754, a704]) (st' := [(.int 4)]) ?_
   refine Ow.istore (pc' := 80) (Ls' := #[.val (.int x0), .val (.int x1), .val (.int x2), .val (.int x3), .val (.int x4), .val (.int x5), .val (.int 4), .val (.ref a704), .val (.ref r750), .val (.ref r1037), .val (.int 4), .unset]) B at_78 ?_
   refine Ow.iload (pc' := 82) B at_80 ?_
   refine Ow.ifF (pc' := 85) B at_82 (by decide) ?_
   refine Ow.Go.join (α := Unit) (pc1 := 121) (fun _ => #[.val (.int x0), .val (.int x1), .val (.int x2), .val (.int x3), .val (.int x4), .val (.int x5), .val (.int 4), .val (.ref a704), .val (.ref r750), .val (.ref r1037), .val (.int 4), .unset]) (fun _ => []) ?_ ?_
   ·intro _
    refine Ow.aload (pc' := 123) B at_121 ?_
    refine Ow.iload (pc' := 125) B at_123 ?_
    refine Ow.iconst (pc' := 126) (x := 1) B at_125 ?_
    refine Ow.isub (pc' := 127) (z := 3) B at_126 ?_
    refine Ow.Go.old (fun o1054 => ?_)
    refine Ow.callStatic (pc' := 130) (W := 0) (k' := 13) (n' := 58) (argsL := [(.ref a704), (.int 3)]) (rest := []) B at_127 (w70 hw) (w71 hw) (w4 hw) (w72 hw) (con_strip_56 hw G GS (pa0 := a704) (px0 := y710) (px1 := y720) (px2 := y730) (px3 := y740) (pk0 := ka704) o1054 f1050 (by omega) (c1042) (c1043) (c1044) c713 c723 c733 c743) pd30 ?_
    intro vq1055 h1056 S1057 q1055 zh1056
    obtain ⟨rfl, rfl, rfl⟩ := q1055
    refine Ow.Go.nr (S' := [a754, a704]) (st' := [(.int 0)]) ?_
    refine Ow.istore (pc' := 132) (Ls' := #[.val (.int x0), .val (.int x1), .val (.int x2), .val (.int x3), .val (.int x4), .val (.int x5), .val (.int 4), .val (.ref a704), .val (.ref r750), .val (.ref r1037), .val (.int 4), .val (.int 0)]) B at_130 ?_
    refine Ow.aload (pc' := 134) B at_132 ?_
    refine Ow.Go.old (fun o1058 => ?_)
    refine Ow.callVirtual (pc' := 137) (W := 0) (k' := 13) (n' := 58) (argsL := []) (rest := []) (K := "java/lang/String") B at_134 (w172 hw) (w52 hw) (w54 hw) (w54 hw) (w53 hw) (w11 hw) (w55 hw) (f1045).1 (gLen hw G GS o1058 f1045 (by simp)) pd21 ?_
    intro vq1059 h1060 S1061 q1059 zh1060
    obtain ⟨rfl, rfl, rfl⟩ := q1059
    refine Ow.Go.nr (S' := [a754, a704]) (st' := [(.int 0)]) ?_
    refine Ow.iload (pc' := 139) B at_137 ?_
    refine Ow.icmpF (pc' := 142) B at_139 (by decide) ?_
    refine Ow.aload (pc' := 144) B at_142 ?_
    refine Ow.aload (pc' := 146) B at_144 ?_
    refine Ow.iload (pc' := 148) B at_146 ?_
    refine Ow.Go.old (fun o1062 => ?_)
    refine Ow.callStatic (pc' := 151) (W := 0) (k' := 13) (n' := 58) (argsL := [(.ref r1037), (.ref a704), (.int 0)]) (rest := []) B at_148 (w173 hw) (w174 hw) (w4 hw) (w175 hw) (con_prefixEq_37 hw G GS (pa0 := r1037) (pa1 := a704) o1062) pd35 ?_
    intro vq1063 h1064 S1065 q1063 zh1064
    obtain ⟨rfl, rfl, rfl⟩ := q1063
    refine Ow.Go.nr (S' := [a754, a704]) (st' := [(.int 1)]) ?_
    refine Ow.ifF (pc' := 154) B at_151 (by decide) ?_
    refine Ow.iconst (pc' := 155) (x := 1) B at_154 ?_
    refine Ow.goto (pc' := 159) B at_155 ?_
    exact Ow.retI (S' := []) (t := .boolean) B at_159 (rfl)
   ·intro J1066
    rcases c1041 with c1067 | c1067 | c1067
    ·refine Ow.aload (pc' := 87) B at_85 ?_
     refine Ow.iload (pc' := 89) B at_87 ?_
     refine Ow.iconst (pc' := 90) (x := 1) B at_89 ?_
     refine Ow.isub (pc' := 91) (z := 3) B at_90 ?_
     refine Ow.caload (pc' := 92) B at_91 f1050 ⟨by decide, by decide⟩ rfl ?_
     refine Ow.bipush (pc' := 94) (x := 59) B at_92 ?_
     refine Ow.icmpT (pc' := 121) B at_94 (teq (c1067)).1 ?_
     exact J1066 ()
    ·refine Ow.aload (pc' := 87) B at_85 ?_
     refine Ow.iload (pc' := 89) B at_87 ?_
     refine Ow.iconst (pc' := 90) (x := 1) B at_89 ?_
     refine Ow.isub (pc' := 91) (z := 3) B at_90 ?_
     refine Ow.caload (pc' := 92) B at_91 f1050 ⟨by decide, by decide⟩ rfl ?_
     refine Ow.bipush (pc' := 94) (x := 59) B at_92 ?_
     refine Ow.icmpF (pc' := 97) B at_94 (feq (by rw [c1067]; decide)).1 ?_
     refine Ow.aload (pc' := 99) B at_97 ?_
     refine Ow.iload (pc' := 101) B at_99 ?_
     refine Ow.iconst (pc' := 102) (x := 1) B at_101 ?_
     refine Ow.isub (pc' := 103) (z := 3) B at_102 ?_
     refine Ow.caload (pc' := 104) B at_103 f1050 ⟨by decide, by decide⟩ rfl ?_
     refine Ow.bipush (pc' := 106) (x := 44) B at_104 ?_
     refine Ow.icmpT (pc' := 121) B at_106 (teq (c1067)).1 ?_
     exact J1066 ()
    ·refine Ow.aload (pc' := 87) B at_85 ?_
     refine Ow.iload (pc' := 89) B at_87 ?_
     refine Ow.iconst (pc' := 90) (x := 1) B at_89 ?_
     refine Ow.isub (pc' := 91) (z := 3) B at_90 ?_
     refine Ow.caload (pc' := 92) B at_91 f1050 ⟨by decide, by decide⟩ rfl ?_
     refine Ow.bipush (pc' := 94) (x := 59) B at_92 ?_
     refine Ow.icmpF (pc' := 97) B at_94 (feq (by rw [c1067]; decide)).1 ?_
     refine Ow.aload (pc' := 99) B at_97 ?_
     refine Ow.iload (pc' := 101) B at_99 ?_
     refine Ow.iconst (pc' := 102) (x := 1) B at_101 ?_
     refine Ow.isub (pc' := 103) (z := 3) B at_102 ?_
     refine Ow.caload (pc' := 104) B at_103 f1050 ⟨by decide, by decide⟩ rfl ?_
     refine Ow.bipush (pc' := 106) (x := 44) B at_104 ?_
     refine Ow.icmpF (pc' := 109) B at_106 (feq (by rw [c1067]; decide)).1 ?_
     refine Ow.aload (pc' := 111) B at_109 ?_
     refine Ow.iload (pc' := 113) B at_111 ?_
     refine Ow.iconst (pc' := 114) (x := 1) B at_113 ?_
     refine Ow.isub (pc' := 115) (z := 3) B at_114 ?_
     refine Ow.caload (pc' := 116) B at_115 f1050 ⟨by decide, by decide⟩ rfl ?_
     refine Ow.bipush (pc' := 118) (x := 58) B at_116 ?_
     refine Ow.icmpF (pc' := 121) B at_118 (teq (c1067)).2 ?_
     exact J1066 ()
  ·obtain ⟨r1068, r1069, k1070, rfl, Kh769, c1071, c1072, c1073, c1074, c1075, f1076, rfl⟩ := q768
   have lr1069 : (r1069 : Nat) < h769.size := f1076.ltt
   have lr1068 : (r1068 : Nat) < h769.size := f1076.lt
   refine Ow.Go.nr (S' := [a754, a704]) (st' := [(.ref r1068)]) ?_
   refine Ow.astore (pc' := 71) (Ls' := #[.val (.int x0), .val (.int x1), .val (.int x2), .val (.int x3), .val (.int x4), .val (.int x5), .val (.int 4), .val (.ref a704), .val (.ref r750), .val (.ref r1068), .unset, .unset]) B at_69 ?_
   refine Ow.aload (pc' := 73) B at_71 ?_
   refine Ow.iload (pc' := 75) B at_73 ?_
   refine Ow.Go.old (fun o1077 => ?_)
   have f1078 := V745.keep Kh748 Ow.nin0
   have f1079 := f1078.keep Kh755 Ow.nin0
   have f1080 := f1079.keep Kh760 (Ow.ninS (by omega) Ow.nin0)
   have f1081 := f1080.keep Kh769 Ow.nin0
   refine Ow.callStatic (pc' := 78) (W := 0) (k' := 13) (n' := 58) (argsL := [(.ref a704), (.int 4)]) (rest := []) B at_75 (w70 hw) (w71 hw) (w4 hw) (w72 hw) (con_strip_75 hw G GS (pa0 := a704) (px0 := y710) (px1 := y720) (px2 := y730) (px3 := y740) (pk0 := ka704) o1077 f1081 (by omega) (c1071) c713 c723 c733 c743) pd30 ?_
   intro vq1082 h1083 S1084 q1082 zh1083
   obtain ⟨rfl, rfl, rfl⟩ := q1082
   refine Ow.Go.nr (S' := [a754, a704]) (st' := [(.int 4)]) ?_
   refine Ow.istore (pc' := 80) (Ls' := #[.val (.int x0), .val (.int x1), .val (.int x2), .val (.int x3), .val (.int x4), .val (.int x5), .val (.int 4), .val (.ref a704), .val (.ref r750), .val (.ref r1068), .val (.int 4), .unset]) B at_78 ?_
   refine Ow.iload (pc' := 82) B at_80 ?_
   refine Ow.ifF (pc' := 85) B at_82 (by decide) ?_
   refine Ow.Go.join (α := Unit) (pc1 := 121) (fun _ => #[.val (.int x0), .val (.int x1), .val (.int x2), .val (.int x3), .val (.int x4), .val (.int x5), .val (.int 4), .val (.ref a704), .val (.ref r750), .val (.ref r1068), .val (.int 4), .unset]) (fun _ => []) ?_ ?_
   ·intro _
    refine Ow.aload (pc' := 123) B at_121 ?_
    refine Ow.iload (pc' := 125) B at_123 ?_
    refine Ow.iconst (pc' := 126) (x := 1) B at_125 ?_
    refine Ow.isub (pc' := 127) (z := 3) B at_126 ?_
    refine Ow.Go.old (fun o1085 => ?_)
    refine Ow.callStatic (pc' := 130) (W := 0) (k' := 13) (n' := 58) (argsL := [(.ref a704), (.int 3)]) (rest := []) B at_127 (w70 hw) (w71 hw) (w4 hw) (w72 hw) (con_strip_57 hw G GS (pa0 := a704) (px0 := y710) (px1 := y720) (px2 := y730) (px3 := y740) (pk0 := ka704) o1085 f1081 (by omega) (c1073) (c1074) (c1075) c713 c723 c733 c743) pd30 ?_
    intro vq1086 h1087 S1088 q1086 zh1087
    obtain ⟨rfl, rfl, rfl⟩ := q1086
    refine Ow.Go.nr (S' := [a754, a704]) (st' := [(.int 1)]) ?_
    refine Ow.istore (pc' := 132) (Ls' := #[.val (.int x0), .val (.int x1), .val (.int x2), .val (.int x3), .val (.int x4), .val (.int x5), .val (.int 4), .val (.ref a704), .val (.ref r750), .val (.ref r1068), .val (.int 4), .val (.int 1)]) B at_130 ?_
    refine Ow.aload (pc' := 134) B at_132 ?_
    refine Ow.Go.old (fun o1089 => ?_)
    refine Ow.callVirtual (pc' := 137) (W := 0) (k' := 13) (n' := 58) (argsL := []) (rest := []) (K := "java/lang/String") B at_134 (w172 hw) (w52 hw) (w54 hw) (w54 hw) (w53 hw) (w11 hw) (w55 hw) (f1076).1 (gLen hw G GS o1089 f1076 (by simp)) pd21 ?_
    intro vq1090 h1091 S1092 q1090 zh1091
    obtain ⟨rfl, rfl, rfl⟩ := q1090
    refine Ow.Go.nr (S' := [a754, a704]) (st' := [(.int 1)]) ?_
    refine Ow.iload (pc' := 139) B at_137 ?_
    refine Ow.icmpF (pc' := 142) B at_139 (by decide) ?_
    refine Ow.aload (pc' := 144) B at_142 ?_
    refine Ow.aload (pc' := 146) B at_144 ?_
    refine Ow.iload (pc' := 148) B at_146 ?_
    refine Ow.Go.old (fun o1093 => ?_)
    refine Ow.callStatic (pc' := 151) (W := 0) (k' := 13) (n' := 58) (argsL := [(.ref r1068), (.ref a704), (.int 1)]) (rest := []) B at_148 (w173 hw) (w174 hw) (w4 hw) (w175 hw) (con_prefixEq_47 hw G GS (pa0 := r1068) (pa1 := a704) (pa2 := r1069) (px0 := y710) (px1 := y720) (px2 := y730) (px3 := y740) (pk0 := k1070) (pk1 := ka704) o1093 f1076 f1081 (by omega) c713 c723 c733 c743) pd35 ?_
    intro vq1094 h1095 S1096 q1094 zh1095
    obtain ⟨rfl, rfl, rfl⟩ := q1094
    refine Ow.Go.nr (S' := [a754, a704]) (st' := [(.int 1)]) ?_
    refine Ow.ifF (pc' := 154) B at_151 (by decide) ?_
    refine Ow.iconst (pc' := 155) (x := 1) B at_154 ?_
    refine Ow.goto (pc' := 159) B at_155 ?_
    exact Ow.retI (S' := []) (t := .boolean) B at_159 (rfl)
   ·intro J1097
    rcases c1072 with c1098 | c1098 | c1098
    ·refine Ow.aload (pc' := 87) B at_85 ?_
     refine Ow.iload (pc' := 89) B at_87 ?_
     refine Ow.iconst (pc' := 90) (x := 1) B at_89 ?_
     refine Ow.isub (pc' := 91) (z := 3) B at_90 ?_
     refine Ow.caload (pc' := 92) B at_91 f1081 ⟨by decide, by decide⟩ rfl ?_
     refine Ow.bipush (pc' := 94) (x := 59) B at_92 ?_
     refine Ow.icmpT (pc' := 121) B at_94 (teq (c1098)).1 ?_
     exact J1097 ()
    ·refine Ow.aload (pc' := 87) B at_85 ?_
     refine Ow.iload (pc' := 89) B at_87 ?_
     refine Ow.iconst (pc' := 90) (x := 1) B at_89 ?_
     refine Ow.isub (pc' := 91) (z := 3) B at_90 ?_
     refine Ow.caload (pc' := 92) B at_91 f1081 ⟨by decide, by decide⟩ rfl ?_
     refine Ow.bipush (pc' := 94) (x := 59) B at_92 ?_
     refine Ow.icmpF (pc' := 97) B at_94 (feq (by rw [c1098]; decide)).1 ?_
     refine Ow.aload (pc' := 99) B at_97 ?_
     refine Ow.iload (pc' := 101) B at_99 ?_
     refine Ow.iconst (pc' := 102) (x := 1) B at_101 ?_
     refine Ow.isub (pc' := 103) (z := 3) B at_102 ?_
     refine Ow.caload (pc' := 104) B at_103 f1081 ⟨by decide, by decide⟩ rfl ?_
     refine Ow.bipush (pc' := 106) (x := 44) B at_104 ?_
     refine Ow.icmpT (pc' := 121) B at_106 (teq (c1098)).1 ?_
     exact J1097 ()
    ·refine Ow.aload (pc' := 87) B at_85 ?_
     refine Ow.iload (pc' := 89) B at_87 ?_
     refine Ow.iconst (pc' := 90) (x := 1) B at_89 ?_
     refine Ow.isub (pc' := 91) (z := 3) B at_90 ?_
     refine Ow.caload (pc' := 92) B at_91 f1081 ⟨by decide, by decide⟩ rfl ?_
     refine Ow.bipush (pc' := 94) (x := 59) B at_92 ?_
     refine Ow.icmpF (pc' := 97) B at_94 (feq (by rw [c1098]; decide)).1 ?_
     refine Ow.aload (pc' := 99) B at_97 ?_
     refine Ow.iload (pc' := 101) B at_99 ?_
     refine Ow.iconst (pc' := 102) (x := 1) B at_101 ?_
     refine Ow.isub (pc' := 103) (z := 3) B at_102 ?_
     refine Ow.caload (pc' := 104) B at_103 f1081 ⟨by decide, by decide⟩ rfl ?_
     refine Ow.bipush (pc' := 106) (x := 44) B at_104 ?_
     refine Ow.icmpF (pc' := 109) B at_106 (feq (by rw [c1098]; decide)).1 ?_
     refine Ow.aload (pc' := 111) B at_109 ?_
     refine Ow.iload (pc' := 113) B at_111 ?_
     refine Ow.iconst (pc' := 114) (x := 1) B at_113 ?_
     refine Ow.isub (pc' := 115) (z := 3) B at_114 ?_
     refine Ow.caload (pc' := 116) B at_115 f1081 ⟨by decide, by decide⟩ rfl ?_
     refine Ow.bipush (pc' := 118) (x := 58) B at_116 ?_
     refine Ow.icmpF (pc' := 121) B at_118 (teq (c1098)).2 ?_
     exact J1097 ()
  ·obtain ⟨r1099, r1100, k1101, rfl, Kh769, c1102, c1103, c1104, c1105, f1106, rfl⟩ := q768
   have lr1100 : (r1100 : Nat) < h769.size := f1106.ltt
   have lr1099 : (r1099 : Nat) < h769.size := f1106.lt
   refine Ow.Go.nr (S' := [a754, a704]) (st' := [(.ref r1099)]) ?_
   refine Ow.astore (pc' := 71) (Ls' := #[.val (.int x0), .val (.int x1), .val (.int x2), .val (.int x3), .val (.int x4), .val (.int x5), .val (.int 4), .val (.ref a704), .val (.ref r750), .val (.ref r1099), .unset, .unset]) B at_69 ?_
   refine Ow.aload (pc' := 73) B at_71 ?_
   refine Ow.iload (pc' := 75) B at_73 ?_
   refine Ow.Go.old (fun o1107 => ?_)
   have f1108 := V745.keep Kh748 Ow.nin0
   have f1109 := f1108.keep Kh755 Ow.nin0
   have f1110 := f1109.keep Kh760 (Ow.ninS (by omega) Ow.nin0)
   have f1111 := f1110.keep Kh769 Ow.nin0
   refine Ow.callStatic (pc' := 78) (W := 0) (k' := 13) (n' := 58) (argsL := [(.ref a704), (.int 4)]) (rest := []) B at_75 (w70 hw) (w71 hw) (w4 hw) (w72 hw) (con_strip_75 hw G GS (pa0 := a704) (px0 := y710) (px1 := y720) (px2 := y730) (px3 := y740) (pk0 := ka704) o1107 f1111 (by omega) (c1102) c713 c723 c733 c743) pd30 ?_
   intro vq1112 h1113 S1114 q1112 zh1113
   obtain ⟨rfl, rfl, rfl⟩ := q1112
   refine Ow.Go.nr (S' := [a754, a704]) (st' := [(.int 4)]) ?_
   refine Ow.istore (pc' := 80) (Ls' := #[.val (.int x0), .val (.int x1), .val (.int x2), .val (.int x3), .val (.int x4), .val (.int x5), .val (.int 4), .val (.ref a704), .val (.ref r750), .val (.ref r1099), .val (.int 4), .unset]) B at_78 ?_
   refine Ow.iload (pc' := 82) B at_80 ?_
   refine Ow.ifF (pc' := 85) B at_82 (by decide) ?_
   refine Ow.Go.join (α := Unit) (pc1 := 121) (fun _ => #[.val (.int x0), .val (.int x1), .val (.int x2), .val (.int x3), .val (.int x4), .val (.int x5), .val (.int 4), .val (.ref a704), .val (.ref r750), .val (.ref r1099), .val (.int 4), .unset]) (fun _ => []) ?_ ?_
   ·intro _
    refine Ow.aload (pc' := 123) B at_121 ?_
    refine Ow.iload (pc' := 125) B at_123 ?_
    refine Ow.iconst (pc' := 126) (x := 1) B at_125 ?_
    refine Ow.isub (pc' := 127) (z := 3) B at_126 ?_
    refine Ow.Go.old (fun o1115 => ?_)
    refine Ow.callStatic (pc' := 130) (W := 0) (k' := 13) (n' := 58) (argsL := [(.ref a704), (.int 3)]) (rest := []) B at_127 (w70 hw) (w71 hw) (w4 hw) (w72 hw) (con_strip_58 hw G GS (pa0 := a704) (px0 := y710) (px1 := y720) (px2 := y730) (px3 := y740) (pk0 := ka704) o1115 f1111 (by omega) (c1104) (c1105) c713 c723 c733 c743) pd30 ?_
    intro vq1116 h1117 S1118 q1116 zh1117
    obtain ⟨rfl, rfl, rfl⟩ := q1116
    refine Ow.Go.nr (S' := [a754, a704]) (st' := [(.int 2)]) ?_
    refine Ow.istore (pc' := 132) (Ls' := #[.val (.int x0), .val (.int x1), .val (.int x2), .val (.int x3), .val (.int x4), .val (.int x5), .val (.int 4), .val (.ref a704), .val (.ref r750), .val (.ref r1099), .val (.int 4), .val (.int 2)]) B at_130 ?_
    refine Ow.aload (pc' := 134) B at_132 ?_
    refine Ow.Go.old (fun o1119 => ?_)
    refine Ow.callVirtual (pc' := 137) (W := 0) (k' := 13) (n' := 58) (argsL := []) (rest := []) (K := "java/lang/String") B at_134 (w172 hw) (w52 hw) (w54 hw) (w54 hw) (w53 hw) (w11 hw) (w55 hw) (f1106).1 (gLen hw G GS o1119 f1106 (by simp)) pd21 ?_
    intro vq1120 h1121 S1122 q1120 zh1121
    obtain ⟨rfl, rfl, rfl⟩ := q1120
    refine Ow.Go.nr (S' := [a754, a704]) (st' := [(.int 2)]) ?_
    refine Ow.iload (pc' := 139) B at_137 ?_
    refine Ow.icmpF (pc' := 142) B at_139 (by decide) ?_
    refine Ow.aload (pc' := 144) B at_142 ?_
    refine Ow.aload (pc' := 146) B at_144 ?_
    refine Ow.iload (pc' := 148) B at_146 ?_
    refine Ow.Go.old (fun o1123 => ?_)
    refine Ow.callStatic (pc' := 151) (W := 0) (k' := 13) (n' := 58) (argsL := [(.ref r1099), (.ref a704), (.int 2)]) (rest := []) B at_148 (w173 hw) (w174 hw) (w4 hw) (w175 hw) (con_prefixEq_60 hw G GS (pa0 := r1099) (pa1 := a704) (pa2 := r1100) (px0 := y710) (px1 := y720) (px2 := y730) (px3 := y740) (pk0 := k1101) (pk1 := ka704) o1123 f1106 f1111 (by omega) c713 c723 c733 c743) pd35 ?_
    intro vq1124 h1125 S1126 q1124 zh1125
    obtain ⟨rfl, rfl, rfl⟩ := q1124
    refine Ow.Go.nr (S' := [a754, a704]) (st' := [(.int 1)]) ?_
    refine Ow.ifF (pc' := 154) B at_151 (by decide) ?_
    refine Ow.iconst (pc' := 155) (x := 1) B at_154 ?_
    refine Ow.goto (pc' := 159) B at_155 ?_
    exact Ow.retI (S' := []) (t := .boolean) B at_159 (rfl)
   ·intro J1127
    rcases c1103 with c1128 | c1128 | c1128
    ·refine Ow.aload (pc' := 87) B at_85 ?_
     refine Ow.iload (pc' := 89) B at_87 ?_
     refine Ow.iconst (pc' := 90) (x := 1) B at_89 ?_
     refine Ow.isub (pc' := 91) (z := 3) B at_90 ?_
     refine Ow.caload (pc' := 92) B at_91 f1111 ⟨by decide, by decide⟩ rfl ?_
     refine Ow.bipush (pc' := 94) (x := 59) B at_92 ?_
     refine Ow.icmpT (pc' := 121) B at_94 (teq (c1128)).1 ?_
     exact J1127 ()
    ·refine Ow.aload (pc' := 87) B at_85 ?_
     refine Ow.iload (pc' := 89) B at_87 ?_
     refine Ow.iconst (pc' := 90) (x := 1) B at_89 ?_
     refine Ow.isub (pc' := 91) (z := 3) B at_90 ?_
     refine Ow.caload (pc' := 92) B at_91 f1111 ⟨by decide, by decide⟩ rfl ?_
     refine Ow.bipush (pc' := 94) (x := 59) B at_92 ?_
     refine Ow.icmpF (pc' := 97) B at_94 (feq (by rw [c1128]; decide)).1 ?_
     refine Ow.aload (pc' := 99) B at_97 ?_
     refine Ow.iload (pc' := 101) B at_99 ?_
     refine Ow.iconst (pc' := 102) (x := 1) B at_101 ?_
     refine Ow.isub (pc' := 103) (z := 3) B at_102 ?_
     refine Ow.caload (pc' := 104) B at_103 f1111 ⟨by decide, by decide⟩ rfl ?_
     refine Ow.bipush (pc' := 106) (x := 44) B at_104 ?_
     refine Ow.icmpT (pc' := 121) B at_106 (teq (c1128)).1 ?_
     exact J1127 ()
    ·refine Ow.aload (pc' := 87) B at_85 ?_
     refine Ow.iload (pc' := 89) B at_87 ?_
     refine Ow.iconst (pc' := 90) (x := 1) B at_89 ?_
     refine Ow.isub (pc' := 91) (z := 3) B at_90 ?_
     refine Ow.caload (pc' := 92) B at_91 f1111 ⟨by decide, by decide⟩ rfl ?_
     refine Ow.bipush (pc' := 94) (x := 59) B at_92 ?_
     refine Ow.icmpF (pc' := 97) B at_94 (feq (by rw [c1128]; decide)).1 ?_
     refine Ow.aload (pc' := 99) B at_97 ?_
     refine Ow.iload (pc' := 101) B at_99 ?_
     refine Ow.iconst (pc' := 102) (x := 1) B at_101 ?_
     refine Ow.isub (pc' := 103) (z := 3) B at_102 ?_
     refine Ow.caload (pc' := 104) B at_103 f1111 ⟨by decide, by decide⟩ rfl ?_
     refine Ow.bipush (pc' := 106) (x := 44) B at_104 ?_
     refine Ow.icmpF (pc' := 109) B at_106 (feq (by rw [c1128]; decide)).1 ?_
     refine Ow.aload (pc' := 111) B at_109 ?_
     refine Ow.iload (pc' := 113) B at_111 ?_
     refine Ow.iconst (pc' := 114) (x := 1) B at_113 ?_
     refine Ow.isub (pc' := 115) (z := 3) B at_114 ?_
     refine Ow.caload (pc' := 116) B at_115 f1111 ⟨by decide, by decide⟩ rfl ?_
     refine Ow.bipush (pc' := 118) (x := 58) B at_116 ?_
     refine Ow.icmpF (pc' := 121) B at_118 (teq (c1128)).2 ?_
     exact J1127 ()
  ·obtain ⟨r1129, r1130, k1131, rfl, Kh769, c1132, c1133, c1134, f1135, rfl⟩ := q768
   have lr1130 : (r1130 : Nat) < h769.size := f1135.ltt
   have lr1129 : (r1129 : Nat) < h769.size := f1135.lt
   refine Ow.Go.nr (S' := [a754, a704]) (st' := [(.ref r1129)]) ?_
   refine Ow.astore (pc' := 71) (Ls' := #[.val (.int x0), .val (.int x1), .val (.int x2), .val (.int x3), .val (.int x4), .val (.int x5), .val (.int 4), .val (.ref a704), .val (.ref r750), .val (.ref r1129), .unset, .unset]) B at_69 ?_
   refine Ow.aload (pc' := 73) B at_71 ?_
   refine Ow.iload (pc' := 75) B at_73 ?_
   refine Ow.Go.old (fun o1136 => ?_)
   have f1137 := V745.keep Kh748 Ow.nin0
   have f1138 := f1137.keep Kh755 Ow.nin0
   have f1139 := f1138.keep Kh760 (Ow.ninS (by omega) Ow.nin0)
   have f1140 := f1139.keep Kh769 Ow.nin0
   refine Ow.callStatic (pc' := 78) (W := 0) (k' := 13) (n' := 58) (argsL := [(.ref a704), (.int 4)]) (rest := []) B at_75 (w70 hw) (w71 hw) (w4 hw) (w72 hw) (con_strip_75 hw G GS (pa0 := a704) (px0 := y710) (px1 := y720) (px2 := y730) (px3 := y740) (pk0 := ka704) o1136 f1140 (by omega) (c1132) c713 c723 c733 c743) pd30 ?_
   intro vq1141 h1142 S1143 q1141 zh1142
   obtain ⟨rfl, rfl, rfl⟩ := q1141
   refine Ow.Go.nr (S' := [a754, a704]) (st' := [(.int 4)]) ?_
   refine Ow.istore (pc' := 80) (Ls' := #[.val (.int x0), .val (.int x1), .val (.int x2), .val (.int x3), .val (.int x4), .val (.int x5), .val (.int 4), .val (.ref a704), .val (.ref r750), .val (.ref r1129), .val (.int 4), .unset]) B at_78 ?_
   refine Ow.iload (pc' := 82) B at_80 ?_
   refine Ow.ifF (pc' := 85) B at_82 (by decide) ?_
   refine Ow.Go.join (α := Unit) (pc1 := 121) (fun _ => #[.val (.int x0), .val (.int x1), .val (.int x2), .val (.int x3), .val (.int x4), .val (.int x5), .val (.int 4), .val (.ref a704), .val (.ref r750), .val (.ref r1129), .val (.int 4), .unset]) (fun _ => []) ?_ ?_
   ·intro _
    refine Ow.aload (pc' := 123) B at_121 ?_
    refine Ow.iload (pc' := 125) B at_123 ?_
    refine Ow.iconst (pc' := 126) (x := 1) B at_125 ?_
    refine Ow.isub (pc' := 127) (z := 3) B at_126 ?_
    refine Ow.Go.old (fun o1144 => ?_)
    refine Ow.callStatic (pc' := 130) (W := 0) (k' := 13) (n' := 58) (argsL := [(.ref a704), (.int 3)]) (rest := []) B at_127 (w70 hw) (w71 hw) (w4 hw) (w72 hw) (con_strip_59 hw G GS (pa0 := a704) (px0 := y710) (px1 := y720) (px2 := y730) (px3 := y740) (pk0 := ka704) o1144 f1140 (by omega) (c1134) c713 c723 c733 c743) pd30 ?_
    intro vq1145 h1146 S1147 q1145 zh1146
    obtain ⟨rfl, rfl, rfl⟩ := q1145
    refine Ow.Go.nr (S' := [a754, a704]) (st' := [(.int 3)]) ?_
    refine Ow.istore (pc' := 132) (Ls' := #[.val (.int x0), .val (.int x1), .val (.int x2), .val (.int x3), .val (.int x4), .val (.int x5), .val (.int 4), .val (.ref a704), .val (.ref r750), .val (.ref r1129), .val (.int 4), .val (.int 3)]) B at_130 ?_
    refine Ow.aload (pc' := 134) B at_132 ?_
    refine Ow.Go.old (fun o1148 => ?_)
    refine Ow.callVirtual (pc' := 137) (W := 0) (k' := 13) (n' := 58) (argsL := []) (rest := []) (K := "java/lang/String") B at_134 (w172 hw) (w52 hw) (w54 hw) (w54 hw) (w53 hw) (w11 hw) (w55 hw) (f1135).1 (gLen hw G GS o1148 f1135 (by simp)) pd21 ?_
    intro vq1149 h1150 S1151 q1149 zh1150
    obtain ⟨rfl, rfl, rfl⟩ := q1149
    refine Ow.Go.nr (S' := [a754, a704]) (st' := [(.int 3)]) ?_
    refine Ow.iload (pc' := 139) B at_137 ?_
    refine Ow.icmpF (pc' := 142) B at_139 (by decide) ?_
    refine Ow.aload (pc' := 144) B at_142 ?_
    refine Ow.aload (pc' := 146) B at_144 ?_
    refine Ow.iload (pc' := 148) B at_146 ?_
    refine Ow.Go.old (fun o1152 => ?_)
    refine Ow.callStatic (pc' := 151) (W := 0) (k' := 13) (n' := 58) (argsL := [(.ref r1129), (.ref a704), (.int 3)]) (rest := []) B at_148 (w173 hw) (w174 hw) (w4 hw) (w175 hw) (con_prefixEq_76 hw G GS (pa0 := r1129) (pa1 := a704) (pa2 := r1130) (px0 := y710) (px1 := y720) (px2 := y730) (px3 := y740) (pk0 := k1131) (pk1 := ka704) o1152 f1135 f1140 (by omega) c713 c723 c733 c743) pd35 ?_
    intro vq1153 h1154 S1155 q1153 zh1154
    obtain ⟨rfl, rfl, rfl⟩ := q1153
    refine Ow.Go.nr (S' := [a754, a704]) (st' := [(.int 1)]) ?_
    refine Ow.ifF (pc' := 154) B at_151 (by decide) ?_
    refine Ow.iconst (pc' := 155) (x := 1) B at_154 ?_
    refine Ow.goto (pc' := 159) B at_155 ?_
    exact Ow.retI (S' := []) (t := .boolean) B at_159 (rfl)
   ·intro J1156
    rcases c1133 with c1157 | c1157 | c1157
    ·refine Ow.aload (pc' := 87) B at_85 ?_
     refine Ow.iload (pc' := 89) B at_87 ?_
     refine Ow.iconst (pc' := 90) (x := 1) B at_89 ?_
     refine Ow.isub (pc' := 91) (z := 3) B at_90 ?_
     refine Ow.caload (pc' := 92) B at_91 f1140 ⟨by decide, by decide⟩ rfl ?_
     refine Ow.bipush (pc' := 94) (x := 59) B at_92 ?_
     refine Ow.icmpT (pc' := 121) B at_94 (teq (c1157)).1 ?_
     exact J1156 ()
    ·refine Ow.aload (pc' := 87) B at_85 ?_
     refine Ow.iload (pc' := 89) B at_87 ?_
     refine Ow.iconst (pc' := 90) (x := 1) B at_89 ?_
     refine Ow.isub (pc' := 91) (z := 3) B at_90 ?_
     refine Ow.caload (pc' := 92) B at_91 f1140 ⟨by decide, by decide⟩ rfl ?_
     refine Ow.bipush (pc' := 94) (x := 59) B at_92 ?_
     refine Ow.icmpF (pc' := 97) B at_94 (feq (by rw [c1157]; decide)).1 ?_
     refine Ow.aload (pc' := 99) B at_97 ?_
     refine Ow.iload (pc' := 101) B at_99 ?_
     refine Ow.iconst (pc' := 102) (x := 1) B at_101 ?_
     refine Ow.isub (pc' := 103) (z := 3) B at_102 ?_
     refine Ow.caload (pc' := 104) B at_103 f1140 ⟨by decide, by decide⟩ rfl ?_
     refine Ow.bipush (pc' := 106) (x := 44) B at_104 ?_
     refine Ow.icmpT (pc' := 121) B at_106 (teq (c1157)).1 ?_
     exact J1156 ()
    ·refine Ow.aload (pc' := 87) B at_85 ?_
     refine Ow.iload (pc' := 89) B at_87 ?_
     refine Ow.iconst (pc' := 90) (x := 1) B at_89 ?_
     refine Ow.isub (pc' := 91) (z := 3) B at_90 ?_
     refine Ow.caload (pc' := 92) B at_91 f1140 ⟨by decide, by decide⟩ rfl ?_
     refine Ow.bipush (pc' := 94) (x := 59) B at_92 ?_
     refine Ow.icmpF (pc' := 97) B at_94 (feq (by rw [c1157]; decide)).1 ?_
     refine Ow.aload (pc' := 99) B at_97 ?_
     refine Ow.iload (pc' := 101) B at_99 ?_
     refine Ow.iconst (pc' := 102) (x := 1) B at_101 ?_
     refine Ow.isub (pc' := 103) (z := 3) B at_102 ?_
     refine Ow.caload (pc' := 104) B at_103 f1140 ⟨by decide, by decide⟩ rfl ?_
     refine Ow.bipush (pc' := 106) (x := 44) B at_104 ?_
     refine Ow.icmpF (pc' := 109) B at_106 (feq (by rw [c1157]; decide)).1 ?_
     refine Ow.aload (pc' := 111) B at_109 ?_
     refine Ow.iload (pc' := 113) B at_111 ?_
     refine Ow.iconst (pc' := 114) (x := 1) B at_113 ?_
     refine Ow.isub (pc' := 115) (z := 3) B at_114 ?_
     refine Ow.caload (pc' := 116) B at_115 f1140 ⟨by decide, by decide⟩ rfl ?_
     refine Ow.bipush (pc' := 118) (x := 58) B at_116 ?_
     refine Ow.icmpF (pc' := 121) B at_118 (teq (c1157)).2 ?_
     exact J1156 ()
set_option maxRecDepth 65536 in
set_option maxHeartbeats 40000000 in
theorem comes_1 {Post : Tables → Env → Array Value → State → Outcome → State → Prop} (hpost : ∀ tb e args s v u, (limb_1_1.after args s (.returned v) u = true ∧ limb_1_2.after args s (.returned v) u = true ∧ True) → ReturnedEndW s (.returned v) u (Jvm.fieldLocs frame_1_writes args s ++ Jvm.arrayLocs frame_1_arrays args s ++ Jvm.staticLocs frame_1_statics s) 32 3264 → Post tb e args s (.returned v) u) :
    ArmFor flags0 classFile x code maxLocals ret World_1 tables_1 room_1 Calls_1 rest_1 Pre_1 Post := by
  intro l hfl _ _ p e ha hc hk s m args below hf hA hF happ hP
  obtain ⟨hcalls, hrest, hpre⟩ := hP
  obtain ⟨-, -, -, hnamed, -, -, -, hat⟩ := (Spec.applies_iff hf).mp happ
  obtain ⟨hg, hn⟩ := and_e (Cond.before_iff.mp (show (Jvm.Cond.and given_1 narrow_1).before args s = true from hpre))
  obtain ⟨g0, hg⟩ := and_e hg
  obtain ⟨w0, w1, w2, w3, w4, w5, rfl⟩ : ∃ w0 w1 w2 w3 w4 w5 : Value, args = #[w0, w1, w2, w3, w4, w5] := by
    have hs : args.size = 6 := by simpa [Cond.value, given_1] using g0
    obtain ⟨L⟩ := args
    match L, hs with
    | [w0, w1, w2, w3, w4, w5], _ => exact ⟨w0, w1, w2, w3, w4, w5, rfl⟩
  have hw := fun d (hd : d ∈ tables_1) => atoms_spec (ws := Jvm.Cond.code x code maxLocals ret :: tables_1) hat d (List.mem_cons_of_mem _ hd)
  have hsets := (atoms_of jdkStatics_1 (by rw [← rest_1_c_eq]; exact hrest)).1
  obtain ⟨g1, hg⟩ := and_e hg
  obtain ⟨i0, e0⟩ := is_v g1
  obtain rfl : w0 = (.int i0) := Option.some.inj e0
  obtain ⟨g2, hg⟩ := and_e hg
  obtain ⟨i1, e1⟩ := is_v g2
  obtain rfl : w1 = (.int i1) := Option.some.inj e1
  obtain ⟨g3, hg⟩ := and_e hg
  obtain ⟨i2, e2⟩ := is_v g3
  obtain rfl : w2 = (.int i2) := Option.some.inj e2
  obtain ⟨g4, hg⟩ := and_e hg
  obtain ⟨i3, e3⟩ := is_v g4
  obtain rfl : w3 = (.int i3) := Option.some.inj e3
  obtain ⟨g5, hg⟩ := and_e hg
  obtain ⟨i4, e4⟩ := is_v g5
  obtain rfl : w4 = (.int i4) := Option.some.inj e4
  have g6 := hg
  obtain ⟨i5, e5⟩ := is_v g6
  obtain rfl : w5 = (.int i5) := Option.some.inj e5
  obtain ⟨cz, ecz⟩ := is_v (Cond.before_iff.mp (hsets _ (List.mem_of_getElem? (i := 1) rfl)))
  have hcz : cz ≠ 0 := gotF (Cond.eq_ints ecz (Term.int_eval (0))) (not_v (Cond.before_iff.mp (hsets _ (List.mem_of_getElem? (i := 2) rfl))))
  obtain ⟨sf, esf, rsf⟩ := isR_v (Cond.before_iff.mp (hsets _ (List.mem_of_getElem? (i := 8) rfl)))
  have G : Ow.Glo s cz sf := ⟨Sta.start ecz (Or.inl (hsets _ (List.mem_of_getElem? (i := 0) rfl))), hcz, Sta.start esf (Or.inl (hsets _ (List.mem_of_getElem? (i := 7) rfl))), rsf⟩
  have hCH : CHv s EL1 s.vm s.heap := CHv.start (hEW hw) (fun q hq => hcalls.1 q (by simp only [List.mem_cons, List.not_mem_nil, or_false] at hq; rcases hq with rfl | rfl | rfl <;> simp [consts_1])) (hsets _ (List.mem_of_getElem? (i := 2) rfl)) (w23 hw) (w10 hw)
  have GS : GlS s  := ⟨Sta.start (Ow.eq_int_v (Cond.before_iff.mp (hsets _ (List.mem_of_getElem? (i := 12) rfl)))) (Or.inl (hsets _ (List.mem_of_getElem? (i := 11) rfl))), Sta.start (Ow.eq_int_v (Cond.before_iff.mp (hsets _ (List.mem_of_getElem? (i := 15) rfl)))) (Or.inl (hsets _ (List.mem_of_getElem? (i := 14) rfl))), Sta.start (Ow.eq_int_v (Cond.before_iff.mp (hsets _ (List.mem_of_getElem? (i := 18) rfl)))) (Or.inl (hsets _ (List.mem_of_getElem? (i := 17) rfl)))⟩
  obtain ⟨n, o, h1, h2, h3, v, L, S', rfl, ⟨rfl, N, -, -⟩, -, hq⟩ := lawCon hw G GS i0 i1 i2 i3 i4 i5 (Old.start s) p e ha hc hk s m _ below hf ((Spec.applies_iff_loose hf).mp happ).1 ⟨rfl, State.Warmed39.refl s, rfl, hCH, Ow.SafeL.nil⟩ trivial
  refine ⟨n, _, h1, h2, h3, hpost _ _ _ _ _ _ ⟨Cond.after_iff.mpr rfl, Cond.after_iff.mpr (eq_i res_at (Term.int_eval (1)) rfl), trivial⟩ ⟨hq.1, hq.2.1, hq.2.2.1, (hq.2.2.2.sift fun y hy => Or.inr (N y hy)).mono (by decide) (by decide)⟩⟩
theorem main_1_1 : Claimed_1_1 := comes_1 fun _ _ _ _ _ _ h hF => ⟨h.1, hF⟩
theorem main_1_2 : Claimed_1_2 := comes_1 fun _ _ _ _ _ _ h hF => ⟨h.2.1, hF⟩
end Jvm.Pilot.@@N@@
namespace Jvm.Pilot.@@N@@
open Jvm Jvm.ClassFile Sem Op Lib Jvm.Free Jvm.Stand Jvm.Pilot.@@N@@.Jvm.D
/-! MADE BY PROGRAM (witnessworld.py) out of the Statement's table words and the real class files: 24 classes; the members and pool entries that the words name. The judged class is class 1, her method 5. -/
namespace start1
open Jvm.ClassFile
def u (s : String) : CpInfo := .utf8 (stringToUtf16 s)
/-- a pool by its gaps: so many unusable entries, then the entry; so many at the end -/
def gap : Nat → List CpInfo → List CpInfo
  | 0, r => r
  | n + 1, r => .unusable :: gap n r
def poolList (es : List (Nat × CpInfo)) (last : Nat) : List CpInfo := es.foldr (fun e r => gap e.1 (e.2 :: r)) (gap last [])
def pool (es : List (Nat × CpInfo)) (last : Nat) : Array CpInfo := ⟨poolList es last⟩
def fileOf (pool : Array CpInfo) (this : Nat) (attrs : Array Attribute := #[]) (ms : Array MethodInfo := #[]) (fl : Nat := 33) (sup : Nat := 0) (ifs : Array Nat := #[]) (fds : Array FieldInfo := #[]) : ClassFile where
  minorVersion := 0
  majorVersion := 65
  constantPool := pool
  accessFlags := fl
  thisClass := this
  superClass := sup
  interfaces := ifs
  fields := fds
  methods := ms
  attributes := attrs
def plain (name : String) (sup : Option ClassId) : Class where
  name := name
  kind := .ordinary
  loader := none
  accessFlags := 33
  super := sup
  interfaces := #[]
  cf := none
  fields := #[]
  methods := #[]
  instanceTypes := #[]
  staticTypes := #[]
  resolved := #[]
  callSites := []
  init := .initialized
  statics := none
  mirror := none

def pool0 : Array CpInfo := pool [(5, u "<init>"), (0, u "()V"), (1, .class_ 10), (1, u "java/lang/Object")] 113

def k0c0 : Code := { maxStack := 0, maxLocals := 1, code := object_method_1_code, exceptionTable := #[], attributes := #[] }
def k0m0 : Method := { name := "<init>", desc := "()V", sig := { parameters := [], returnType := none }, accessFlags := 1, code := some k0c0 }
/-- java/lang/Object -/
def k0 : Class := { plain "java/lang/Object" none with
  accessFlags := 33
  interfaces := #[]
  cf := some (fileOf pool0 8 #[] #[{ accessFlags := 1, nameIndex := 5, descriptorIndex := 6, attributes := #[] }] 33 0 #[] #[])
  fields := #[]
  methods := #[k0m0]
  instanceTypes := #[]
  staticTypes := #[]
  resolved := Array.replicate 124 none
  statics := none }

def pool1 : Array CpInfo := pool [(2, .class_ 4), (1, u "java/lang/Object"), (0, u "<init>"), (0, u "()V"), (0, .integer 65535), (0, .class_ 9), (0, u "java/lang/String"), (0, .methodref 8 11), (0, .nameAndType 5 12), (0, u "([C)V"), (0, .methodref 8 14), (0, .nameAndType 15 16), (0, u "charAt"), (0, u "(I)C"), (0, .integer 2147483647), (0, .methodref 19 20), (0, .class_ 21), (0, .nameAndType 22 16), (0, u "com/example/elsewhere/elsewhere/SubfieldWithoutSeparatorPinLaw"), (0, u "sel"), (0, .methodref 19 24), (0, .nameAndType 25 26), (0, u "str"), (0, u "(I[C)Ljava/lang/String;"), (0, .class_ 28), (0, u "com/example/elsewhere/elsewhere/Field$Subfield"), (0, .methodref 27 30), (0, .nameAndType 5 31), (0, u "(ILjava/lang/String;)V"), (0, .methodref 27 33), (0, .nameAndType 34 35), (0, u "withoutSeparator"), (0, u "()Ljava/lang/String;"), (0, .methodref 19 37), (0, .nameAndType 38 39), (0, u "strip"), (0, u "([CI)I"), (0, .methodref 8 41), (0, .nameAndType 42 43), (0, u "length"), (0, u "()I"), (0, .methodref 19 45), (0, .nameAndType 46 47), (0, u "prefixEq"), (0, u "(Ljava/lang/String;[CI)Z"), (0, .methodref 8 49), (0, .nameAndType 50 51), (0, u "equals"), (0, u "(Ljava/lang/Object;)Z"), (3, u "law"), (0, u "(IIIIII)Z")] 8

def k1m0 : Method := { name := "<init>", desc := "()V", sig := { parameters := [], returnType := none }, accessFlags := 1, code := none }
def k1c1 : Code := { maxStack := 2, maxLocals := 2, code := method_2_code, exceptionTable := #[], attributes := #[] }
def k1m1 : Method := { name := "sel", desc := "(I)C", sig := { parameters := [.int], returnType := some .char }, accessFlags := 10, code := some k1c1 }
def k1c2 : Code := { maxStack := 7, maxLocals := 2, code := method_3_code, exceptionTable := #[], attributes := #[] }
def k1m2 : Method := { name := "str", desc := "(I[C)Ljava/lang/String;", sig := { parameters := [.int, (.array .char)], returnType := some (.object "java/lang/String") }, accessFlags := 10, code := some k1c2 }
def k1c3 : Code := { maxStack := 3, maxLocals := 3, code := method_4_code, exceptionTable := #[], attributes := #[] }
def k1m3 : Method := { name := "strip", desc := "([CI)I", sig := { parameters := [(.array .char), .int], returnType := some .int }, accessFlags := 10, code := some k1c3 }
def k1c4 : Code := { maxStack := 3, maxLocals := 3, code := method_5_code, exceptionTable := #[], attributes := #[] }
def k1m4 : Method := { name := "prefixEq", desc := "(Ljava/lang/String;[CI)Z", sig := { parameters := [(.object "java/lang/String"), (.array .char), .int], returnType := some .boolean }, accessFlags := 10, code := some k1c4 }
def k1c5 : Code := { maxStack := 4, maxLocals := 12, code := code, exceptionTable := #[], attributes := #[] }
def k1m5 : Method := { name := "law", desc := "(IIIIII)Z", sig := { parameters := [.int, .int, .int, .int, .int, .int], returnType := some .boolean }, accessFlags := 9, code := some k1c5 }
/-- com/example/elsewhere/elsewhere/SubfieldWithoutSeparatorPinLaw -/
def k1 : Class := { plain "com/example/elsewhere/elsewhere/SubfieldWithoutSeparatorPinLaw" (some 0) with
  accessFlags := 49
  interfaces := #[]
  cf := some (fileOf pool1 19 #[] #[{ accessFlags := 1, nameIndex := 5, descriptorIndex := 6, attributes := #[] }, { accessFlags := 10, nameIndex := 22, descriptorIndex := 16, attributes := #[] }, { accessFlags := 10, nameIndex := 25, descriptorIndex := 26, attributes := #[] }, { accessFlags := 10, nameIndex := 38, descriptorIndex := 39, attributes := #[] }, { accessFlags := 10, nameIndex := 46, descriptorIndex := 47, attributes := #[] }, { accessFlags := 9, nameIndex := 55, descriptorIndex := 56, attributes := #[] }] 49 2 #[] #[])
  fields := #[]
  methods := #[k1m0, k1m1, k1m2, k1m3, k1m4, k1m5]
  instanceTypes := #[]
  staticTypes := #[]
  resolved := Array.replicate 65 none
  statics := none }

def pool2 : Array CpInfo := pool [(1, .class_ 2), (0, u "java/io/Serializable"), (0, .class_ 4), (0, u "java/lang/Object")] 2

/-- java/io/Serializable -/
def k2 : Class := { plain "java/io/Serializable" (some 0) with
  accessFlags := 1537
  interfaces := #[]
  cf := some (fileOf pool2 1 #[] #[] 1537 3 #[] #[])
  fields := #[]
  methods := #[]
  instanceTypes := #[]
  staticTypes := #[]
  resolved := Array.replicate 7 none
  statics := none }

def pool3 : Array CpInfo := pool [(1, .class_ 2), (0, u "java/lang/Comparable"), (0, .class_ 4), (0, u "java/lang/Object")] 7

/-- java/lang/Comparable -/
def k3 : Class := { plain "java/lang/Comparable" (some 0) with
  accessFlags := 1537
  interfaces := #[]
  cf := some (fileOf pool3 1 #[] #[] 1537 3 #[] #[])
  fields := #[]
  methods := #[]
  instanceTypes := #[]
  staticTypes := #[]
  resolved := Array.replicate 12 none
  statics := none }

def pool4 : Array CpInfo := pool [(2, .class_ 4), (1, u "java/lang/CharSequence"), (42, .class_ 48), (0, u "java/lang/CharSequence$1CodePointIterator"), (10, .class_ 60), (0, u "java/lang/CharSequence$1CharIterator"), (5, .class_ 67), (0, u "java/lang/Object")] 63

/-- java/lang/CharSequence -/
def k4 : Class := { plain "java/lang/CharSequence" (some 0) with
  accessFlags := 1537
  interfaces := #[]
  cf := some (fileOf pool4 2 #[.nestMembers #[47, 59]] #[] 1537 66 #[] #[])
  fields := #[]
  methods := #[]
  instanceTypes := #[]
  staticTypes := #[]
  resolved := Array.replicate 131 none
  statics := none }

def pool5 : Array CpInfo := pool [(1, .class_ 2), (0, u "java/lang/constant/Constable"), (0, .class_ 4), (0, u "java/lang/Object")] 6

/-- java/lang/constant/Constable -/
def k5 : Class := { plain "java/lang/constant/Constable" (some 0) with
  accessFlags := 1537
  interfaces := #[]
  cf := some (fileOf pool5 1 #[] #[] 1537 3 #[] #[])
  fields := #[]
  methods := #[]
  instanceTypes := #[]
  staticTypes := #[]
  resolved := Array.replicate 11 none
  statics := none }

def pool6 : Array CpInfo := pool [(1, .class_ 2), (0, u "java/lang/constant/ConstantDesc"), (0, .class_ 4), (0, u "java/lang/Object")] 32

/-- java/lang/constant/ConstantDesc -/
def k6 : Class := { plain "java/lang/constant/ConstantDesc" (some 0) with
  accessFlags := 1537
  interfaces := #[]
  cf := some (fileOf pool6 1 #[] #[] 1537 3 #[] #[])
  fields := #[]
  methods := #[]
  instanceTypes := #[]
  staticTypes := #[]
  resolved := Array.replicate 37 none
  statics := none }

def pool7 : Array CpInfo := pool [(1, .methodref 2 3), (0, .class_ 4), (0, .nameAndType 5 6), (0, u "java/lang/Object"), (0, u "<init>"), (0, u "()V"), (0, .string 8), (0, u ""), (0, .fieldref 10 11), (0, .class_ 12), (0, .nameAndType 13 14), (0, u "java/lang/String"), (0, u "value"), (0, u "[B"), (0, .fieldref 10 16), (0, .nameAndType 17 18), (0, u "coder"), (0, u "B"), (2, u "hash"), (0, u "I"), (2, u "hashIsZero"), (0, u "Z"), (0, .methodref 10 28), (0, .nameAndType 5 29), (0, u "([CIILjava/lang/Void;)V"), (6, u "checkBoundsOffCount"), (0, u "(III)I"), (0, .fieldref 10 39), (0, .nameAndType 40 26), (0, u "COMPACT_STRINGS"), (1, .class_ 44), (1, u "java/lang/StringUTF16"), (0, u "compress"), (1, .methodref 42 48), (0, .nameAndType 49 50), (0, u "coderFromArrayLen"), (0, u "([BI)B"), (56, .class_ 109), (1, u "java/lang/StringLatin1"), (32, u "()Z"), (34, .methodref 42 178), (0, .nameAndType 45 179), (0, u "([CII)[B"), (31, u "([BB)V"), (122, u "()I"), (0, .methodref 10 336), (0, .nameAndType 17 337), (0, u "()B"), (25, u "([BI)C"), (27, u "(II)V"), (35, u "(I)C"), (64, .methodref 10 493), (0, .nameAndType 494 142), (0, u "isLatin1"), (0, .methodref 107 496), (0, .nameAndType 497 363), (0, u "charAt"), (0, .methodref 42 496), (2, u "checkIndex"), (3, .methodref 10 506), (0, .nameAndType 507 334), (0, u "length"), (5, u "checkFromToIndex"), (7, .methodref 10 522), (0, .nameAndType 523 524), (0, u "checkBoundsBeginEnd"), (0, u "(III)V"), (18, u "equals"), (29, u "(Ljava/lang/Object;)Z"), (1, .class_ 576), (0, u "java/lang/CharSequence"), (22, u "CASE_INSENSITIVE_ORDER"), (0, u "Ljava/util/Comparator;"), (32, .methodref 10 634), (0, .nameAndType 635 636), (0, u "indexOf"), (0, u "(II)I"), (0, .methodref 107 638), (0, .nameAndType 635 639), (0, u "([BIII)I"), (43, u "substring"), (0, u "(II)Ljava/lang/String;"), (0, .methodref 107 686), (0, .nameAndType 687 688), (0, u "newString"), (0, u "([BII)Ljava/lang/String;"), (0, .methodref 42 686), (75, u "(I)I"), (244, u "([C)V"), (42, .fieldref 1054 1055), (0, .class_ 1056), (0, .nameAndType 1057 1058), (0, u "jdk/internal/util/Preconditions"), (0, u "SIOOBE_FORMATTER"), (0, u "Ljava/util/function/BiFunction;"), (0, .methodref 1054 1060), (0, .nameAndType 501 1061), (0, u "(IILjava/util/function/BiFunction;)I"), (0, .methodref 1054 1063), (0, .nameAndType 513 1064), (0, u "(IIILjava/util/function/BiFunction;)I"), (0, .methodref 1054 1066), (0, .nameAndType 1067 1064), (0, u "checkFromIndexSize"), (33, u "serialPersistentFields"), (0, u "[Ljava/io/ObjectStreamField;"), (0, .class_ 1104), (0, u "java/lang/String$CaseInsensitiveComparator"), (1, .class_ 1107), (0, u "java/io/Serializable"), (0, .class_ 1109), (0, u "java/lang/Comparable"), (0, .class_ 1111), (0, u "java/lang/constant/Constable"), (0, .class_ 1113), (0, u "java/lang/constant/ConstantDesc"), (2, u "serialVersionUID"), (0, u "J"), (3, u "REPL"), (0, u "C"), (2, u "LATIN1"), (1, u "UTF16")] 323

def k7m0 : Method := { name := "<init>", desc := "()V", sig := { parameters := [], returnType := none }, accessFlags := 1, code := none }
def k7c1 : Code := { maxStack := 5, maxLocals := 2, code := jdk_42_method_3_code, exceptionTable := #[], attributes := #[] }
def k7m1 : Method := { name := "<init>", desc := "([C)V", sig := { parameters := [(.array .char)], returnType := none }, accessFlags := 1, code := some k7c1 }
def k7c2 : Code := { maxStack := 2, maxLocals := 1, code := jdk_42_method_54_code, exceptionTable := #[], attributes := #[] }
def k7m2 : Method := { name := "length", desc := "()I", sig := { parameters := [], returnType := some .int }, accessFlags := 1, code := some k7c2 }
def k7c3 : Code := { maxStack := 2, maxLocals := 2, code := jdk_42_method_56_code, exceptionTable := #[], attributes := #[] }
def k7m3 : Method := { name := "charAt", desc := "(I)C", sig := { parameters := [.int], returnType := some .char }, accessFlags := 1, code := some k7c3 }
def k7c4 : Code := { maxStack := 2, maxLocals := 3, code := jdk_42_method_66_code, exceptionTable := #[], attributes := #[] }
def k7m4 : Method := { name := "equals", desc := "(Ljava/lang/Object;)Z", sig := { parameters := [(.object "java/lang/Object")], returnType := some .boolean }, accessFlags := 1, code := some k7c4 }
def k7c5 : Code := { maxStack := 3, maxLocals := 2, code := jdk_42_method_79_code, exceptionTable := #[], attributes := #[] }
def k7m5 : Method := { name := "indexOf", desc := "(I)I", sig := { parameters := [.int], returnType := some .int }, accessFlags := 1, code := some k7c5 }
def k7c6 : Code := { maxStack := 4, maxLocals := 3, code := jdk_42_method_80_code, exceptionTable := #[], attributes := #[] }
def k7m6 : Method := { name := "indexOf", desc := "(II)I", sig := { parameters := [.int, .int], returnType := some .int }, accessFlags := 1, code := some k7c6 }
def k7c7 : Code := { maxStack := 3, maxLocals := 5, code := jdk_42_method_92_code, exceptionTable := #[], attributes := #[] }
def k7m7 : Method := { name := "substring", desc := "(II)Ljava/lang/String;", sig := { parameters := [.int, .int], returnType := some (.object "java/lang/String") }, accessFlags := 1, code := some k7c7 }
def k7c8 : Code := { maxStack := 4, maxLocals := 6, code := jdk_42_method_149_code, exceptionTable := #[], attributes := #[] }
def k7m8 : Method := { name := "<init>", desc := "([CIILjava/lang/Void;)V", sig := { parameters := [(.array .char), .int, .int, (.object "java/lang/Void")], returnType := none }, accessFlags := 2, code := some k7c8 }
def k7c9 : Code := { maxStack := 2, maxLocals := 3, code := jdk_42_method_151_code, exceptionTable := #[], attributes := #[] }
def k7m9 : Method := { name := "<init>", desc := "([BB)V", sig := { parameters := [(.array .byte), .byte], returnType := none }, accessFlags := 0, code := some k7c9 }
def k7c10 : Code := { maxStack := 1, maxLocals := 1, code := jdk_42_method_152_code, exceptionTable := #[], attributes := #[] }
def k7m10 : Method := { name := "coder", desc := "()B", sig := { parameters := [], returnType := some .byte }, accessFlags := 0, code := some k7c10 }
def k7c11 : Code := { maxStack := 1, maxLocals := 1, code := jdk_42_method_154_code, exceptionTable := #[], attributes := #[] }
def k7m11 : Method := { name := "isLatin1", desc := "()Z", sig := { parameters := [], returnType := some .boolean }, accessFlags := 0, code := some k7c11 }
def k7c12 : Code := { maxStack := 3, maxLocals := 2, code := jdk_42_method_155_code, exceptionTable := #[], attributes := #[] }
def k7m12 : Method := { name := "checkIndex", desc := "(II)V", sig := { parameters := [.int, .int], returnType := none }, accessFlags := 8, code := some k7c12 }
def k7c13 : Code := { maxStack := 4, maxLocals := 3, code := jdk_42_method_157_code, exceptionTable := #[], attributes := #[] }
def k7m13 : Method := { name := "checkBoundsOffCount", desc := "(III)I", sig := { parameters := [.int, .int, .int], returnType := some .int }, accessFlags := 8, code := some k7c13 }
def k7c14 : Code := { maxStack := 4, maxLocals := 3, code := jdk_42_method_158_code, exceptionTable := #[], attributes := #[] }
def k7m14 : Method := { name := "checkBoundsBeginEnd", desc := "(III)V", sig := { parameters := [.int, .int, .int], returnType := none }, accessFlags := 8, code := some k7c14 }
/-- java/lang/String -/
def k7 : Class := { plain "java/lang/String" (some 0) with
  accessFlags := 49
  interfaces := #[2, 3, 4, 5, 6]
  cf := some (fileOf pool7 10 #[.nestMembers #[1103]] #[{ accessFlags := 1, nameIndex := 5, descriptorIndex := 6, attributes := #[] }, { accessFlags := 1, nameIndex := 5, descriptorIndex := 1010, attributes := #[] }, { accessFlags := 1, nameIndex := 507, descriptorIndex := 334, attributes := #[] }, { accessFlags := 1, nameIndex := 497, descriptorIndex := 427, attributes := #[] }, { accessFlags := 1, nameIndex := 543, descriptorIndex := 573, attributes := #[] }, { accessFlags := 1, nameIndex := 635, descriptorIndex := 765, attributes := #[] }, { accessFlags := 1, nameIndex := 635, descriptorIndex := 636, attributes := #[] }, { accessFlags := 1, nameIndex := 683, descriptorIndex := 684, attributes := #[] }, { accessFlags := 2, nameIndex := 5, descriptorIndex := 29, attributes := #[] }, { accessFlags := 0, nameIndex := 5, descriptorIndex := 211, attributes := #[] }, { accessFlags := 0, nameIndex := 17, descriptorIndex := 337, attributes := #[] }, { accessFlags := 0, nameIndex := 494, descriptorIndex := 142, attributes := #[] }, { accessFlags := 8, nameIndex := 501, descriptorIndex := 391, attributes := #[] }, { accessFlags := 8, nameIndex := 36, descriptorIndex := 37, attributes := #[] }, { accessFlags := 8, nameIndex := 523, descriptorIndex := 524, attributes := #[] }] 49 2 #[1106, 1108, 575, 1110, 1112] #[{ accessFlags := 18, nameIndex := 13, descriptorIndex := 14, attributes := #[] }, { accessFlags := 18, nameIndex := 17, descriptorIndex := 18, attributes := #[] }, { accessFlags := 2, nameIndex := 21, descriptorIndex := 22, attributes := #[] }, { accessFlags := 2, nameIndex := 25, descriptorIndex := 26, attributes := #[] }, { accessFlags := 26, nameIndex := 1116, descriptorIndex := 1117, attributes := #[] }, { accessFlags := 24, nameIndex := 40, descriptorIndex := 26, attributes := #[] }, { accessFlags := 26, nameIndex := 1101, descriptorIndex := 1102, attributes := #[] }, { accessFlags := 26, nameIndex := 1121, descriptorIndex := 1122, attributes := #[] }, { accessFlags := 25, nameIndex := 599, descriptorIndex := 600, attributes := #[] }, { accessFlags := 24, nameIndex := 1125, descriptorIndex := 18, attributes := #[] }, { accessFlags := 24, nameIndex := 1127, descriptorIndex := 18, attributes := #[] }])
  fields := #[{ name := "value", type := (.array .byte), accessFlags := 18, slot := 0, constantValue := 0 }, { name := "coder", type := .byte, accessFlags := 18, slot := 1, constantValue := 0 }, { name := "hash", type := .int, accessFlags := 2, slot := 2, constantValue := 0 }, { name := "hashIsZero", type := .boolean, accessFlags := 2, slot := 3, constantValue := 0 }, { name := "serialVersionUID", type := .long, accessFlags := 26, slot := 0, constantValue := 0 }, { name := "COMPACT_STRINGS", type := .boolean, accessFlags := 24, slot := 1, constantValue := 0 }, { name := "serialPersistentFields", type := (.array (.object "java/io/ObjectStreamField")), accessFlags := 26, slot := 2, constantValue := 0 }, { name := "REPL", type := .char, accessFlags := 26, slot := 3, constantValue := 0 }, { name := "CASE_INSENSITIVE_ORDER", type := (.object "java/util/Comparator"), accessFlags := 25, slot := 4, constantValue := 0 }, { name := "LATIN1", type := .byte, accessFlags := 24, slot := 5, constantValue := 0 }, { name := "UTF16", type := .byte, accessFlags := 24, slot := 6, constantValue := 0 }]
  methods := #[k7m0, k7m1, k7m2, k7m3, k7m4, k7m5, k7m6, k7m7, k7m8, k7m9, k7m10, k7m11, k7m12, k7m13, k7m14]
  instanceTypes := #[(.array .byte), .byte, .int, .boolean]
  staticTypes := #[.long, .boolean, (.array (.object "java/io/ObjectStreamField")), .char, (.object "java/util/Comparator"), .byte, .byte]
  resolved := Array.replicate 1451 none
  statics := some 0 }

def pool8 : Array CpInfo := pool [(1, .methodref 2 3), (0, .class_ 4), (0, .nameAndType 5 6), (0, u "java/lang/Object"), (0, u "<init>"), (0, u "()V"), (0, .class_ 8), (0, u "java/lang/Record")] 13

def k8c0 : Code := { maxStack := 1, maxLocals := 1, code := jdk_30_method_1_code, exceptionTable := #[], attributes := #[] }
def k8m0 : Method := { name := "<init>", desc := "()V", sig := { parameters := [], returnType := none }, accessFlags := 4, code := some k8c0 }
/-- java/lang/Record -/
def k8 : Class := { plain "java/lang/Record" (some 0) with
  accessFlags := 1057
  interfaces := #[]
  cf := some (fileOf pool8 7 #[] #[{ accessFlags := 4, nameIndex := 5, descriptorIndex := 6, attributes := #[] }] 1057 2 #[] #[])
  fields := #[]
  methods := #[k8m0]
  instanceTypes := #[]
  staticTypes := #[]
  resolved := Array.replicate 22 none
  statics := none }

def pool9 : Array CpInfo := pool [(1, .methodref 2 3), (0, .class_ 4), (0, .nameAndType 5 6), (0, u "java/lang/Record"), (0, u "<init>"), (0, u "()V"), (0, .fieldref 8 9), (0, .class_ 10), (0, .nameAndType 11 12), (0, u "com/example/elsewhere/elsewhere/Field$Subfield"), (0, u "code"), (0, u "I"), (0, .fieldref 8 14), (0, .nameAndType 15 16), (0, u "value"), (0, u "Ljava/lang/String;"), (0, .methodref 18 19), (0, .class_ 20), (0, .nameAndType 21 22), (0, u "java/lang/String"), (0, u "length"), (0, u "()I"), (0, .methodref 18 24), (0, .nameAndType 25 26), (0, u "charAt"), (0, u "(I)C"), (0, .methodref 8 28), (0, .nameAndType 29 30), (0, u "endBeforeSpaces"), (0, u "(II)I"), (0, .methodref 8 32), (0, .nameAndType 33 30), (0, u "endBeforeSeparator"), (0, .methodref 18 35), (0, .nameAndType 36 37), (0, u "substring"), (0, u "(II)Ljava/lang/String;"), (0, .string 39), (0, u ";,:"), (0, .methodref 18 41), (0, .nameAndType 42 43), (0, u "indexOf"), (0, u "(I)I"), (12, u "(ILjava/lang/String;)V"), (4, u "()Ljava/lang/String;"), (1, u "withoutSeparator"), (4, .class_ 69), (0, u "com/example/elsewhere/elsewhere/Field")] 20

def k9c0 : Code := { maxStack := 2, maxLocals := 3, code := prog_11_method_1_code, exceptionTable := #[], attributes := #[] }
def k9m0 : Method := { name := "<init>", desc := "(ILjava/lang/String;)V", sig := { parameters := [.int, (.object "java/lang/String")], returnType := none }, accessFlags := 1, code := some k9c0 }
def k9c1 : Code := { maxStack := 3, maxLocals := 3, code := prog_11_method_3_code, exceptionTable := #[], attributes := #[] }
def k9m1 : Method := { name := "withoutSeparator", desc := "()Ljava/lang/String;", sig := { parameters := [], returnType := some (.object "java/lang/String") }, accessFlags := 0, code := some k9c1 }
def k9c2 : Code := { maxStack := 4, maxLocals := 3, code := prog_11_method_4_code, exceptionTable := #[], attributes := #[] }
def k9m2 : Method := { name := "endBeforeSeparator", desc := "(II)I", sig := { parameters := [.int, .int], returnType := some .int }, accessFlags := 2, code := some k9c2 }
def k9c3 : Code := { maxStack := 3, maxLocals := 4, code := prog_11_method_5_code, exceptionTable := #[], attributes := #[] }
def k9m3 : Method := { name := "endBeforeSpaces", desc := "(II)I", sig := { parameters := [.int, .int], returnType := some .int }, accessFlags := 2, code := some k9c3 }
/-- com/example/elsewhere/elsewhere/Field$Subfield -/
def k9 : Class := { plain "com/example/elsewhere/elsewhere/Field$Subfield" (some 8) with
  accessFlags := 49
  interfaces := #[]
  cf := some (fileOf pool9 8 #[.nestHost 68] #[{ accessFlags := 1, nameIndex := 5, descriptorIndex := 56, attributes := #[] }, { accessFlags := 0, nameIndex := 63, descriptorIndex := 61, attributes := #[] }, { accessFlags := 2, nameIndex := 33, descriptorIndex := 30, attributes := #[] }, { accessFlags := 2, nameIndex := 29, descriptorIndex := 30, attributes := #[] }] 49 2 #[] #[{ accessFlags := 18, nameIndex := 11, descriptorIndex := 12, attributes := #[] }, { accessFlags := 18, nameIndex := 15, descriptorIndex := 16, attributes := #[] }])
  fields := #[{ name := "code", type := .int, accessFlags := 18, slot := 0, constantValue := 0 }, { name := "value", type := (.object "java/lang/String"), accessFlags := 18, slot := 1, constantValue := 0 }]
  methods := #[k9m0, k9m1, k9m2, k9m3]
  instanceTypes := #[.int, (.object "java/lang/String")]
  staticTypes := #[]
  resolved := Array.replicate 90 none
  statics := none }

def pool10 : Array CpInfo := pool [(3, .class_ 4), (0, u "java/lang/String"), (1, .class_ 8), (1, u "java/lang/Object"), (0, u "<init>"), (0, u "()V"), (0, .methodref 12 13), (0, .class_ 14), (0, .nameAndType 15 16), (0, u "java/lang/StringUTF16"), (0, u "newBytesLength"), (0, u "(I)I"), (3, .integer 1073741823), (23, .fieldref 12 45), (0, .nameAndType 46 47), (0, u "$assertionsDisabled"), (0, u "Z"), (0, .methodref 12 49), (0, .nameAndType 50 51), (0, u "length"), (0, u "([B)I"), (7, .fieldref 12 60), (0, .nameAndType 61 62), (0, u "HI_BYTE_SHIFT"), (0, u "I"), (0, .fieldref 12 64), (0, .nameAndType 65 62), (0, u "LO_BYTE_SHIFT"), (1, .methodref 12 68), (0, .nameAndType 69 70), (0, u "checkIndex"), (0, u "(I[B)V"), (0, .methodref 12 72), (0, .nameAndType 73 74), (0, u "getChar"), (0, u "([BI)C"), (24, u "(II[B)V"), (7, .methodref 12 108), (0, .nameAndType 109 110), (0, u "newBytesFor"), (0, u "(I)[B"), (0, .methodref 12 112), (0, .nameAndType 113 114), (0, u "putChar"), (0, u "([BII)V"), (0, .methodref 12 116), (0, .nameAndType 117 118), (0, u "compress"), (0, u "([CI[BII)I"), (0, .methodref 12 120), (0, .nameAndType 121 122), (0, u "toBytes"), (0, u "([CII)[B"), (0, .methodref 12 124), (0, .nameAndType 117 125), (0, u "([BI[BII)I"), (0, .methodref 127 128), (0, .class_ 129), (0, .nameAndType 130 131), (0, u "java/util/Arrays"), (0, u "copyOfRange"), (0, u "([BII)[B"), (41, .methodref 12 174), (0, .nameAndType 175 99), (0, u "checkBoundsOffCount"), (75, .fieldref 3 252), (0, .nameAndType 253 47), (0, u "COMPACT_STRINGS"), (3, .methodref 12 258), (0, .nameAndType 117 131), (0, .methodref 12 260), (0, .nameAndType 261 262), (0, u "coderFromArrayLen"), (0, u "([BI)B"), (0, .methodref 3 264), (0, .nameAndType 9 265), (0, u "([BB)V"), (15, u "(III)I"), (45, u "newString"), (0, u "([BII)Ljava/lang/String;"), (40, .class_ 371), (1, u "java/lang/StringUTF16$LinesSpliterator"), (20, u "charAt"), (21, .methodref 3 415), (0, .nameAndType 69 416), (0, u "(II)V"), (2, .methodref 3 420), (0, .nameAndType 175 281), (9, u "MAX_LENGTH"), (196, .class_ 628), (0, u "java/lang/StringUTF16$CodePointsSpliterator"), (0, .class_ 630), (0, u "java/lang/StringUTF16$CharsSpliterator")] 4

def k10m0 : Method := { name := "<init>", desc := "()V", sig := { parameters := [], returnType := none }, accessFlags := 0, code := none }
def k10c1 : Code := { maxStack := 1, maxLocals := 1, code := jdk_52_method_2_code, exceptionTable := #[], attributes := #[] }
def k10m1 : Method := { name := "newBytesFor", desc := "(I)[B", sig := { parameters := [.int], returnType := some (.array .byte) }, accessFlags := 9, code := some k10c1 }
def k10c2 : Code := { maxStack := 4, maxLocals := 1, code := jdk_52_method_3_code, exceptionTable := #[], attributes := #[] }
def k10m2 : Method := { name := "newBytesLength", desc := "(I)I", sig := { parameters := [.int], returnType := some .int }, accessFlags := 9, code := some k10c2 }
def k10c3 : Code := { maxStack := 4, maxLocals := 3, code := jdk_52_method_4_code, exceptionTable := #[], attributes := #[] }
def k10m3 : Method := { name := "putChar", desc := "([BII)V", sig := { parameters := [(.array .byte), .int, .int], returnType := none }, accessFlags := 8, code := some k10c3 }
def k10c4 : Code := { maxStack := 3, maxLocals := 2, code := jdk_52_method_5_code, exceptionTable := #[], attributes := #[] }
def k10m4 : Method := { name := "getChar", desc := "([BI)C", sig := { parameters := [(.array .byte), .int], returnType := some .char }, accessFlags := 8, code := some k10c4 }
def k10c5 : Code := { maxStack := 2, maxLocals := 1, code := jdk_52_method_6_code, exceptionTable := #[], attributes := #[] }
def k10m5 : Method := { name := "length", desc := "([B)I", sig := { parameters := [(.array .byte)], returnType := some .int }, accessFlags := 9, code := some k10c5 }
def k10c6 : Code := { maxStack := 4, maxLocals := 5, code := jdk_52_method_14_code, exceptionTable := #[], attributes := #[] }
def k10m6 : Method := { name := "toBytes", desc := "([CII)[B", sig := { parameters := [(.array .char), .int, .int], returnType := some (.array .byte) }, accessFlags := 9, code := some k10c6 }
def k10c7 : Code := { maxStack := 2, maxLocals := 2, code := jdk_52_method_15_code, exceptionTable := #[], attributes := #[] }
def k10m7 : Method := { name := "coderFromArrayLen", desc := "([BI)B", sig := { parameters := [(.array .byte), .int], returnType := some .byte }, accessFlags := 8, code := some k10c7 }
def k10c8 : Code := { maxStack := 5, maxLocals := 6, code := jdk_52_method_16_code, exceptionTable := #[], attributes := #[] }
def k10m8 : Method := { name := "compress", desc := "([CII)[B", sig := { parameters := [(.array .char), .int, .int], returnType := some (.array .byte) }, accessFlags := 9, code := some k10c8 }
def k10c9 : Code := { maxStack := 5, maxLocals := 6, code := jdk_52_method_17_code, exceptionTable := #[], attributes := #[] }
def k10m9 : Method := { name := "compress", desc := "([BII)[B", sig := { parameters := [(.array .byte), .int, .int], returnType := some (.array .byte) }, accessFlags := 9, code := some k10c9 }
def k10c10 : Code := { maxStack := 3, maxLocals := 7, code := jdk_52_method_21_code, exceptionTable := #[], attributes := #[] }
def k10m10 : Method := { name := "compress", desc := "([CI[BII)I", sig := { parameters := [(.array .char), .int, (.array .byte), .int, .int], returnType := some .int }, accessFlags := 9, code := some k10c10 }
def k10c11 : Code := { maxStack := 3, maxLocals := 7, code := jdk_52_method_22_code, exceptionTable := #[], attributes := #[] }
def k10m11 : Method := { name := "compress", desc := "([BI[BII)I", sig := { parameters := [(.array .byte), .int, (.array .byte), .int, .int], returnType := some .int }, accessFlags := 9, code := some k10c11 }
def k10c12 : Code := { maxStack := 6, maxLocals := 5, code := jdk_52_method_69_code, exceptionTable := #[], attributes := #[] }
def k10m12 : Method := { name := "newString", desc := "([BII)Ljava/lang/String;", sig := { parameters := [(.array .byte), .int, .int], returnType := some (.object "java/lang/String") }, accessFlags := 9, code := some k10c12 }
def k10c13 : Code := { maxStack := 2, maxLocals := 2, code := jdk_52_method_83_code, exceptionTable := #[], attributes := #[] }
def k10m13 : Method := { name := "charAt", desc := "([BI)C", sig := { parameters := [(.array .byte), .int], returnType := some .char }, accessFlags := 9, code := some k10c13 }
def k10c14 : Code := { maxStack := 2, maxLocals := 2, code := jdk_52_method_91_code, exceptionTable := #[], attributes := #[] }
def k10m14 : Method := { name := "checkIndex", desc := "(I[B)V", sig := { parameters := [.int, (.array .byte)], returnType := none }, accessFlags := 9, code := some k10c14 }
def k10c15 : Code := { maxStack := 3, maxLocals := 3, code := jdk_52_method_94_code, exceptionTable := #[], attributes := #[] }
def k10m15 : Method := { name := "checkBoundsOffCount", desc := "(II[B)V", sig := { parameters := [.int, .int, (.array .byte)], returnType := none }, accessFlags := 9, code := some k10c15 }
/-- java/lang/StringUTF16 -/
def k10 : Class := { plain "java/lang/StringUTF16" (some 0) with
  accessFlags := 48
  interfaces := #[]
  cf := some (fileOf pool10 12 #[.nestMembers #[627, 629, 369]] #[{ accessFlags := 0, nameIndex := 9, descriptorIndex := 10, attributes := #[] }, { accessFlags := 9, nameIndex := 109, descriptorIndex := 110, attributes := #[] }, { accessFlags := 9, nameIndex := 15, descriptorIndex := 16, attributes := #[] }, { accessFlags := 8, nameIndex := 113, descriptorIndex := 114, attributes := #[] }, { accessFlags := 8, nameIndex := 73, descriptorIndex := 74, attributes := #[] }, { accessFlags := 9, nameIndex := 50, descriptorIndex := 51, attributes := #[] }, { accessFlags := 9, nameIndex := 121, descriptorIndex := 122, attributes := #[] }, { accessFlags := 8, nameIndex := 261, descriptorIndex := 262, attributes := #[] }, { accessFlags := 9, nameIndex := 117, descriptorIndex := 122, attributes := #[] }, { accessFlags := 9, nameIndex := 117, descriptorIndex := 131, attributes := #[] }, { accessFlags := 9, nameIndex := 117, descriptorIndex := 118, attributes := #[] }, { accessFlags := 9, nameIndex := 117, descriptorIndex := 125, attributes := #[] }, { accessFlags := 9, nameIndex := 327, descriptorIndex := 328, attributes := #[] }, { accessFlags := 9, nameIndex := 392, descriptorIndex := 74, attributes := #[] }, { accessFlags := 9, nameIndex := 69, descriptorIndex := 70, attributes := #[] }, { accessFlags := 9, nameIndex := 175, descriptorIndex := 99, attributes := #[] }] 48 6 #[] #[{ accessFlags := 26, nameIndex := 61, descriptorIndex := 62, attributes := #[] }, { accessFlags := 26, nameIndex := 65, descriptorIndex := 62, attributes := #[] }, { accessFlags := 24, nameIndex := 430, descriptorIndex := 62, attributes := #[] }, { accessFlags := 4120, nameIndex := 46, descriptorIndex := 47, attributes := #[] }])
  fields := #[{ name := "HI_BYTE_SHIFT", type := .int, accessFlags := 26, slot := 0, constantValue := 0 }, { name := "LO_BYTE_SHIFT", type := .int, accessFlags := 26, slot := 1, constantValue := 0 }, { name := "MAX_LENGTH", type := .int, accessFlags := 24, slot := 2, constantValue := 0 }, { name := "$assertionsDisabled", type := .boolean, accessFlags := 4120, slot := 3, constantValue := 0 }]
  methods := #[k10m0, k10m1, k10m2, k10m3, k10m4, k10m5, k10m6, k10m7, k10m8, k10m9, k10m10, k10m11, k10m12, k10m13, k10m14, k10m15]
  instanceTypes := #[]
  staticTypes := #[.int, .int, .int, .boolean]
  resolved := Array.replicate 635 none
  statics := some 1 }

def pool11 : Array CpInfo := pool [(1, .class_ 2), (0, u "java/lang/String"), (1, .class_ 6), (1, u "java/lang/Object"), (0, u "<init>"), (0, u "()V"), (0, .methodref 1 10), (0, .nameAndType 11 12), (0, u "checkIndex"), (0, u "(II)V"), (1, .class_ 16), (1, u "java/lang/StringLatin1"), (21, .methodref 39 40), (0, .class_ 41), (0, .nameAndType 42 43), (0, u "java/lang/Math"), (0, u "min"), (0, u "(II)I"), (9, u "([BI)C"), (34, .methodref 14 89), (0, .nameAndType 90 91), (0, u "canEncode"), (0, u "(I)Z"), (0, .methodref 39 93), (0, .nameAndType 94 43), (0, u "max"), (0, .methodref 14 96), (0, .nameAndType 97 98), (0, u "indexOfChar"), (0, u "([BIII)I"), (2, u "indexOf"), (10, .methodref 1 113), (0, .nameAndType 7 114), (0, u "([BB)V"), (6, u "$assertionsDisabled"), (0, u "Z"), (8, .class_ 133), (1, u "java/util/Arrays"), (17, .string 152), (0, u ""), (43, u "newString"), (0, u "([BII)Ljava/lang/String;"), (23, .class_ 223), (1, u "java/lang/StringLatin1$LinesSpliterator"), (8, .methodref 131 233), (0, .nameAndType 234 235), (0, u "copyOfRange"), (0, u "([BII)[B"), (16, u "charAt"), (137, .class_ 391), (0, u "java/lang/StringLatin1$CharsSpliterator")] 3

def k11m0 : Method := { name := "<init>", desc := "()V", sig := { parameters := [], returnType := none }, accessFlags := 0, code := none }
def k11c1 : Code := { maxStack := 2, maxLocals := 2, code := jdk_43_method_2_code, exceptionTable := #[], attributes := #[] }
def k11m1 : Method := { name := "charAt", desc := "([BI)C", sig := { parameters := [(.array .byte), .int], returnType := some .char }, accessFlags := 9, code := some k11c1 }
def k11c2 : Code := { maxStack := 2, maxLocals := 1, code := jdk_43_method_4_code, exceptionTable := #[], attributes := #[] }
def k11m2 : Method := { name := "canEncode", desc := "(I)Z", sig := { parameters := [.int], returnType := some .boolean }, accessFlags := 9, code := some k11c2 }
def k11c3 : Code := { maxStack := 4, maxLocals := 4, code := jdk_43_method_22_code, exceptionTable := #[], attributes := #[] }
def k11m3 : Method := { name := "indexOf", desc := "([BIII)I", sig := { parameters := [(.array .byte), .int, .int, .int], returnType := some .int }, accessFlags := 9, code := some k11c3 }
def k11c4 : Code := { maxStack := 2, maxLocals := 6, code := jdk_43_method_23_code, exceptionTable := #[], attributes := #[] }
def k11m4 : Method := { name := "indexOfChar", desc := "([BIII)I", sig := { parameters := [(.array .byte), .int, .int, .int], returnType := some .int }, accessFlags := 10, code := some k11c4 }
def k11c5 : Code := { maxStack := 6, maxLocals := 3, code := jdk_43_method_47_code, exceptionTable := #[], attributes := #[] }
def k11m5 : Method := { name := "newString", desc := "([BII)Ljava/lang/String;", sig := { parameters := [(.array .byte), .int, .int], returnType := some (.object "java/lang/String") }, accessFlags := 9, code := some k11c5 }
/-- java/lang/StringLatin1 -/
def k11 : Class := { plain "java/lang/StringLatin1" (some 0) with
  accessFlags := 48
  interfaces := #[]
  cf := some (fileOf pool11 14 #[.nestMembers #[390, 221]] #[{ accessFlags := 0, nameIndex := 7, descriptorIndex := 8, attributes := #[] }, { accessFlags := 9, nameIndex := 252, descriptorIndex := 53, attributes := #[] }, { accessFlags := 9, nameIndex := 90, descriptorIndex := 91, attributes := #[] }, { accessFlags := 9, nameIndex := 101, descriptorIndex := 98, attributes := #[] }, { accessFlags := 10, nameIndex := 97, descriptorIndex := 98, attributes := #[] }, { accessFlags := 9, nameIndex := 196, descriptorIndex := 197, attributes := #[] }] 48 4 #[] #[{ accessFlags := 4120, nameIndex := 121, descriptorIndex := 122, attributes := #[] }])
  fields := #[{ name := "$assertionsDisabled", type := .boolean, accessFlags := 4120, slot := 0, constantValue := 0 }]
  methods := #[k11m0, k11m1, k11m2, k11m3, k11m4, k11m5]
  instanceTypes := #[]
  staticTypes := #[.boolean]
  resolved := Array.replicate 395 none
  statics := none }

def pool12 : Array CpInfo := pool [(2, .class_ 4), (1, u "java/lang/Object"), (0, u "<init>"), (0, u "()V"), (17, .class_ 26), (1, u "jdk/internal/util/Preconditions"), (6, u "checkIndex"), (13, u "checkFromToIndex"), (1, u "checkFromIndexSize"), (5, .class_ 56), (0, u "jdk/internal/util/Preconditions$4"), (57, .class_ 115), (0, u "jdk/internal/util/Preconditions$1"), (7, u "SIOOBE_FORMATTER"), (0, u "Ljava/util/function/BiFunction;"), (0, .class_ 126), (0, u "jdk/internal/util/Preconditions$2"), (3, u "AIOOBE_FORMATTER"), (0, .class_ 132), (0, u "jdk/internal/util/Preconditions$3"), (3, u "IOOBE_FORMATTER"), (41, u "(IILjava/util/function/BiFunction;)I"), (4, u "(IIILjava/util/function/BiFunction;)I")] 10

def k12m0 : Method := { name := "<init>", desc := "()V", sig := { parameters := [], returnType := none }, accessFlags := 1, code := none }
def k12c1 : Code := { maxStack := 3, maxLocals := 3, code := jdk_41_method_11_code, exceptionTable := #[], attributes := #[] }
def k12m1 : Method := { name := "checkIndex", desc := "(IILjava/util/function/BiFunction;)I", sig := { parameters := [.int, .int, (.object "java/util/function/BiFunction")], returnType := some .int }, accessFlags := 9, code := some k12c1 }
def k12c2 : Code := { maxStack := 4, maxLocals := 4, code := jdk_41_method_12_code, exceptionTable := #[], attributes := #[] }
def k12m2 : Method := { name := "checkFromToIndex", desc := "(IIILjava/util/function/BiFunction;)I", sig := { parameters := [.int, .int, .int, (.object "java/util/function/BiFunction")], returnType := some .int }, accessFlags := 9, code := some k12c2 }
def k12c3 : Code := { maxStack := 4, maxLocals := 4, code := jdk_41_method_13_code, exceptionTable := #[], attributes := #[] }
def k12m3 : Method := { name := "checkFromIndexSize", desc := "(IIILjava/util/function/BiFunction;)I", sig := { parameters := [.int, .int, .int, (.object "java/util/function/BiFunction")], returnType := some .int }, accessFlags := 9, code := some k12c3 }
/-- jdk/internal/util/Preconditions -/
def k12 : Class := { plain "jdk/internal/util/Preconditions" (some 0) with
  accessFlags := 33
  interfaces := #[]
  cf := some (fileOf pool12 24 #[.nestMembers #[55, 131, 125, 114]] #[{ accessFlags := 1, nameIndex := 5, descriptorIndex := 6, attributes := #[] }, { accessFlags := 9, nameIndex := 33, descriptorIndex := 178, attributes := #[] }, { accessFlags := 9, nameIndex := 47, descriptorIndex := 183, attributes := #[] }, { accessFlags := 9, nameIndex := 49, descriptorIndex := 183, attributes := #[] }] 33 2 #[] #[{ accessFlags := 25, nameIndex := 123, descriptorIndex := 124, attributes := #[] }, { accessFlags := 25, nameIndex := 130, descriptorIndex := 124, attributes := #[] }, { accessFlags := 25, nameIndex := 136, descriptorIndex := 124, attributes := #[] }])
  fields := #[{ name := "SIOOBE_FORMATTER", type := (.object "java/util/function/BiFunction"), accessFlags := 25, slot := 0, constantValue := 0 }, { name := "AIOOBE_FORMATTER", type := (.object "java/util/function/BiFunction"), accessFlags := 25, slot := 1, constantValue := 0 }, { name := "IOOBE_FORMATTER", type := (.object "java/util/function/BiFunction"), accessFlags := 25, slot := 2, constantValue := 0 }]
  methods := #[k12m0, k12m1, k12m2, k12m3]
  instanceTypes := #[]
  staticTypes := #[(.object "java/util/function/BiFunction"), (.object "java/util/function/BiFunction"), (.object "java/util/function/BiFunction")]
  resolved := Array.replicate 194 none
  statics := some 2 }

def pool13 : Array CpInfo := pool [(1, .class_ 2), (0, u "java/lang/Math"), (1, .class_ 6), (1, u "java/lang/Object"), (0, u "<init>"), (0, u "()V"), (89, .class_ 100), (1, u "java/lang/Math$RandomNumberGeneratorHolder"), (71, u "negativeZeroFloatBits"), (0, u "J"), (2, u "negativeZeroDoubleBits"), (21, u "max"), (2, u "min"), (43, u "$assertionsDisabled"), (0, u "Z"), (88, u "(II)I"), (2, u "twoToTheDoubleScaleDown"), (0, u "D"), (4, u "twoToTheDoubleScaleUp"), (9, u "E"), (3, u "PI"), (2, u "TAU"), (2, u "DEGREES_TO_RADIANS"), (0, u "RADIANS_TO_DEGREES")] 94

def k13m0 : Method := { name := "<init>", desc := "()V", sig := { parameters := [], returnType := none }, accessFlags := 2, code := none }
def k13c1 : Code := { maxStack := 2, maxLocals := 2, code := jdk_29_method_65_code, exceptionTable := #[], attributes := #[] }
def k13m1 : Method := { name := "max", desc := "(II)I", sig := { parameters := [.int, .int], returnType := some .int }, accessFlags := 9, code := some k13c1 }
def k13c2 : Code := { maxStack := 2, maxLocals := 2, code := jdk_29_method_69_code, exceptionTable := #[], attributes := #[] }
def k13m2 : Method := { name := "min", desc := "(II)I", sig := { parameters := [.int, .int], returnType := some .int }, accessFlags := 9, code := some k13c2 }
/-- java/lang/Math -/
def k13 : Class := { plain "java/lang/Math" (some 0) with
  accessFlags := 49
  interfaces := #[]
  cf := some (fileOf pool13 1 #[.nestMembers #[98]] #[{ accessFlags := 2, nameIndex := 7, descriptorIndex := 8, attributes := #[] }, { accessFlags := 9, nameIndex := 198, descriptorIndex := 335, attributes := #[] }, { accessFlags := 9, nameIndex := 201, descriptorIndex := 335, attributes := #[] }] 49 4 #[] #[{ accessFlags := 25, nameIndex := 354, descriptorIndex := 339, attributes := #[] }, { accessFlags := 25, nameIndex := 358, descriptorIndex := 339, attributes := #[] }, { accessFlags := 25, nameIndex := 361, descriptorIndex := 339, attributes := #[] }, { accessFlags := 26, nameIndex := 364, descriptorIndex := 339, attributes := #[] }, { accessFlags := 26, nameIndex := 365, descriptorIndex := 339, attributes := #[] }, { accessFlags := 26, nameIndex := 172, descriptorIndex := 173, attributes := #[] }, { accessFlags := 26, nameIndex := 176, descriptorIndex := 173, attributes := #[] }, { accessFlags := 8, nameIndex := 344, descriptorIndex := 339, attributes := #[] }, { accessFlags := 8, nameIndex := 338, descriptorIndex := 339, attributes := #[] }, { accessFlags := 4120, nameIndex := 245, descriptorIndex := 246, attributes := #[] }])
  fields := #[{ name := "E", type := .double, accessFlags := 25, slot := 0, constantValue := 0 }, { name := "PI", type := .double, accessFlags := 25, slot := 1, constantValue := 0 }, { name := "TAU", type := .double, accessFlags := 25, slot := 2, constantValue := 0 }, { name := "DEGREES_TO_RADIANS", type := .double, accessFlags := 26, slot := 3, constantValue := 0 }, { name := "RADIANS_TO_DEGREES", type := .double, accessFlags := 26, slot := 4, constantValue := 0 }, { name := "negativeZeroFloatBits", type := .long, accessFlags := 26, slot := 5, constantValue := 0 }, { name := "negativeZeroDoubleBits", type := .long, accessFlags := 26, slot := 6, constantValue := 0 }, { name := "twoToTheDoubleScaleUp", type := .double, accessFlags := 8, slot := 7, constantValue := 0 }, { name := "twoToTheDoubleScaleDown", type := .double, accessFlags := 8, slot := 8, constantValue := 0 }, { name := "$assertionsDisabled", type := .boolean, accessFlags := 4120, slot := 9, constantValue := 0 }]
  methods := #[k13m0, k13m1, k13m2]
  instanceTypes := #[]
  staticTypes := #[.double, .double, .double, .double, .double, .long, .long, .double, .double, .boolean]
  resolved := Array.replicate 460 none
  statics := none }

def pool14 : Array CpInfo := pool [(2, .class_ 4), (1, u "java/lang/Object"), (0, u "<init>"), (0, u "()V"), (7, .class_ 16), (1, u "java/util/Arrays"), (57, .class_ 76), (1, u "java/util/Arrays$NaturalOrder"), (36, .class_ 115), (1, u "java/util/Arrays$LegacyMergeSort"), (1, u "Z"), (21, u "copyOfRange"), (10, .methodref 151 152), (0, .class_ 153), (0, .nameAndType 154 155), (0, u "java/lang/System"), (0, u "arraycopy"), (0, u "(Ljava/lang/Object;ILjava/lang/Object;II)V"), (148, .methodref 305 306), (0, .class_ 307), (0, .nameAndType 308 309), (0, u "java/lang/Math"), (0, u "min"), (0, u "(II)I"), (29, .methodref 14 340), (0, .nameAndType 341 342), (0, u "copyOfRangeByte"), (0, u "([BII)[B"), (0, .methodref 14 344), (0, .nameAndType 345 346), (0, u "checkLength"), (0, u "(II)V"), (28, .class_ 376), (0, u "java/util/Arrays$ArrayList"), (68, u "$assertionsDisabled"), (269, u "MIN_ARRAY_SORT_GRAN"), (0, u "I"), (2, u "INSERTIONSORT_THRESHOLD"), (255, .class_ 976), (0, u "java/util/Arrays$ArrayItr")] 52

def k14m0 : Method := { name := "<init>", desc := "()V", sig := { parameters := [], returnType := none }, accessFlags := 2, code := none }
def k14c1 : Code := { maxStack := 4, maxLocals := 2, code := jdk_65_method_131_code, exceptionTable := #[], attributes := #[] }
def k14m1 : Method := { name := "checkLength", desc := "(II)V", sig := { parameters := [.int, .int], returnType := none }, accessFlags := 10, code := some k14c1 }
def k14c2 : Code := { maxStack := 3, maxLocals := 3, code := jdk_65_method_132_code, exceptionTable := #[], attributes := #[] }
def k14m2 : Method := { name := "copyOfRange", desc := "([BII)[B", sig := { parameters := [(.array .byte), .int, .int], returnType := some (.array .byte) }, accessFlags := 9, code := some k14c2 }
def k14c3 : Code := { maxStack := 6, maxLocals := 5, code := jdk_65_method_133_code, exceptionTable := #[], attributes := #[] }
def k14m3 : Method := { name := "copyOfRangeByte", desc := "([BII)[B", sig := { parameters := [(.array .byte), .int, .int], returnType := some (.array .byte) }, accessFlags := 10, code := some k14c3 }
/-- java/util/Arrays -/
def k14 : Class := { plain "java/util/Arrays" (some 0) with
  accessFlags := 49
  interfaces := #[]
  cf := some (fileOf pool14 14 #[.nestMembers #[975, 375, 113, 74]] #[{ accessFlags := 2, nameIndex := 5, descriptorIndex := 6, attributes := #[] }, { accessFlags := 10, nameIndex := 345, descriptorIndex := 346, attributes := #[] }, { accessFlags := 9, nameIndex := 139, descriptorIndex := 342, attributes := #[] }, { accessFlags := 10, nameIndex := 341, descriptorIndex := 342, attributes := #[] }] 49 2 #[] #[{ accessFlags := 26, nameIndex := 715, descriptorIndex := 716, attributes := #[] }, { accessFlags := 26, nameIndex := 719, descriptorIndex := 716, attributes := #[] }, { accessFlags := 4120, nameIndex := 445, descriptorIndex := 117, attributes := #[] }])
  fields := #[{ name := "MIN_ARRAY_SORT_GRAN", type := .int, accessFlags := 26, slot := 0, constantValue := 0 }, { name := "INSERTIONSORT_THRESHOLD", type := .int, accessFlags := 26, slot := 1, constantValue := 0 }, { name := "$assertionsDisabled", type := .boolean, accessFlags := 4120, slot := 2, constantValue := 0 }]
  methods := #[k14m0, k14m1, k14m2, k14m3]
  instanceTypes := #[]
  staticTypes := #[.int, .int, .boolean]
  resolved := Array.replicate 1029 none
  statics := none }

def pool15 : Array CpInfo := pool [(2, .class_ 4), (1, u "java/lang/Object"), (0, u "<init>"), (0, u "()V"), (1, .class_ 10), (1, u "java/lang/System"), (0, u "allowSecurityManager"), (0, u "I"), (16, u "cons"), (0, u "Ljava/io/Console;"), (77, .class_ 110), (1, u "java/lang/System$CallersHolder"), (43, u "initialErrStream"), (0, u "Ljava/io/PrintStream;"), (19, u "security"), (0, u "Ljava/lang/SecurityManager;"), (31, .class_ 209), (0, u "java/lang/System$1"), (7, u "props"), (0, u "Ljava/util/Properties;"), (2, u "lineSeparator"), (0, u "Ljava/lang/String;"), (96, .class_ 321), (1, u "java/lang/System$LoggerFinder"), (5, .class_ 328), (0, u "java/lang/System$Logger"), (67, u "err"), (2, u "out"), (91, u "notSupportedJnuEncoding"), (15, u "in"), (17, u "initialIn"), (0, u "Ljava/io/InputStream;"), (35, u "bootLayer"), (0, u "Ljava/lang/ModuleLayer;"), (99, .class_ 664), (0, u "java/lang/System$2"), (9, u "NEVER"), (2, u "MAYBE"), (49, u "arraycopy"), (0, u "(Ljava/lang/Object;ILjava/lang/Object;II)V"), (72, .class_ 802), (0, u "java/lang/System$Logger$Level")] 31

def k15m0 : Method := { name := "<init>", desc := "()V", sig := { parameters := [], returnType := none }, accessFlags := 2, code := none }
def k15m1 : Method := { name := "arraycopy", desc := "(Ljava/lang/Object;ILjava/lang/Object;II)V", sig := { parameters := [(.object "java/lang/Object"), .int, (.object "java/lang/Object"), .int, .int], returnType := none }, accessFlags := 265, code := none }
/-- java/lang/System -/
def k15 : Class := { plain "java/lang/System" (some 0) with
  accessFlags := 49
  interfaces := #[]
  cf := some (fileOf pool15 8 #[.nestMembers #[319, 327, 801, 108, 663, 208]] #[{ accessFlags := 2, nameIndex := 5, descriptorIndex := 6, attributes := #[] }, { accessFlags := 265, nameIndex := 727, descriptorIndex := 728, attributes := #[] }] 49 2 #[] #[{ accessFlags := 25, nameIndex := 507, descriptorIndex := 526, attributes := #[] }, { accessFlags := 25, nameIndex := 399, descriptorIndex := 155, attributes := #[] }, { accessFlags := 25, nameIndex := 396, descriptorIndex := 155, attributes := #[] }, { accessFlags := 10, nameIndex := 525, descriptorIndex := 526, attributes := #[] }, { accessFlags := 26, nameIndex := 674, descriptorIndex := 12, attributes := #[] }, { accessFlags := 26, nameIndex := 677, descriptorIndex := 12, attributes := #[] }, { accessFlags := 10, nameIndex := 11, descriptorIndex := 12, attributes := #[] }, { accessFlags := 74, nameIndex := 175, descriptorIndex := 176, attributes := #[] }, { accessFlags := 10, nameIndex := 491, descriptorIndex := 222, attributes := #[] }, { accessFlags := 74, nameIndex := 29, descriptorIndex := 30, attributes := #[] }, { accessFlags := 74, nameIndex := 154, descriptorIndex := 155, attributes := #[] }, { accessFlags := 10, nameIndex := 217, descriptorIndex := 218, attributes := #[] }, { accessFlags := 10, nameIndex := 221, descriptorIndex := 222, attributes := #[] }, { accessFlags := 8, nameIndex := 562, descriptorIndex := 563, attributes := #[] }])
  fields := #[{ name := "in", type := (.object "java/io/InputStream"), accessFlags := 25, slot := 0, constantValue := 0 }, { name := "out", type := (.object "java/io/PrintStream"), accessFlags := 25, slot := 1, constantValue := 0 }, { name := "err", type := (.object "java/io/PrintStream"), accessFlags := 25, slot := 2, constantValue := 0 }, { name := "initialIn", type := (.object "java/io/InputStream"), accessFlags := 10, slot := 3, constantValue := 0 }, { name := "NEVER", type := .int, accessFlags := 26, slot := 4, constantValue := 0 }, { name := "MAYBE", type := .int, accessFlags := 26, slot := 5, constantValue := 0 }, { name := "allowSecurityManager", type := .int, accessFlags := 10, slot := 6, constantValue := 0 }, { name := "security", type := (.object "java/lang/SecurityManager"), accessFlags := 74, slot := 7, constantValue := 0 }, { name := "notSupportedJnuEncoding", type := (.object "java/lang/String"), accessFlags := 10, slot := 8, constantValue := 0 }, { name := "cons", type := (.object "java/io/Console"), accessFlags := 74, slot := 9, constantValue := 0 }, { name := "initialErrStream", type := (.object "java/io/PrintStream"), accessFlags := 74, slot := 10, constantValue := 0 }, { name := "props", type := (.object "java/util/Properties"), accessFlags := 10, slot := 11, constantValue := 0 }, { name := "lineSeparator", type := (.object "java/lang/String"), accessFlags := 10, slot := 12, constantValue := 0 }, { name := "bootLayer", type := (.object "java/lang/ModuleLayer"), accessFlags := 8, slot := 13, constantValue := 0 }]
  methods := #[k15m0, k15m1]
  instanceTypes := #[]
  staticTypes := #[(.object "java/io/InputStream"), (.object "java/io/PrintStream"), (.object "java/io/PrintStream"), (.object "java/io/InputStream"), .int, .int, .int, (.object "java/lang/SecurityManager"), (.object "java/lang/String"), (.object "java/io/Console"), (.object "java/io/PrintStream"), (.object "java/util/Properties"), (.object "java/lang/String"), (.object "java/lang/ModuleLayer")]
  resolved := Array.replicate 834 none
  statics := none }

def pool16 : Array CpInfo := pool [(9, u "<init>"), (6, .class_ 18), (1, u "java/lang/Object"), (0, u "()V"), (1, .class_ 23), (1, u "jdk/internal/util/ArraysSupport"), (0, u "LOG2_ARRAY_LONG_INDEX_SCALE"), (0, u "I"), (2, u "U"), (0, u "Ljdk/internal/misc/Unsafe;"), (8, u "BIG_ENDIAN"), (0, u "Z"), (8, u "LOG2_BYTE_BIT_SIZE"), (4, u "LOG2_ARRAY_INT_INDEX_SCALE"), (54, u "JLA"), (0, u "Ljdk/internal/access/JavaLangAccess;"), (11, u "LOG2_ARRAY_BOOLEAN_INDEX_SCALE"), (9, u "LOG2_ARRAY_BYTE_INDEX_SCALE"), (5, u "LOG2_ARRAY_CHAR_INDEX_SCALE"), (5, u "LOG2_ARRAY_SHORT_INDEX_SCALE"), (18, u "LOG2_ARRAY_FLOAT_INDEX_SCALE"), (24, u "LOG2_ARRAY_DOUBLE_INDEX_SCALE"), (89, u "T_BOOLEAN"), (2, u "T_CHAR"), (1, u "T_FLOAT"), (1, u "T_DOUBLE"), (1, u "T_BYTE"), (1, u "T_SHORT"), (1, u "T_INT"), (1, u "T_LONG"), (1, u "SOFT_MAX_ARRAY_LENGTH")] 83

def k16m0 : Method := { name := "<init>", desc := "()V", sig := { parameters := [], returnType := none }, accessFlags := 2, code := none }
/-- jdk/internal/util/ArraysSupport -/
def k16 : Class := { plain "jdk/internal/util/ArraysSupport" (some 0) with
  accessFlags := 33
  interfaces := #[]
  cf := some (fileOf pool16 21 #[] #[{ accessFlags := 2, nameIndex := 9, descriptorIndex := 19, attributes := #[] }] 33 16 #[] #[{ accessFlags := 24, nameIndex := 28, descriptorIndex := 29, attributes := #[] }, { accessFlags := 26, nameIndex := 38, descriptorIndex := 39, attributes := #[] }, { accessFlags := 25, nameIndex := 121, descriptorIndex := 25, attributes := #[] }, { accessFlags := 25, nameIndex := 131, descriptorIndex := 25, attributes := #[] }, { accessFlags := 25, nameIndex := 137, descriptorIndex := 25, attributes := #[] }, { accessFlags := 25, nameIndex := 143, descriptorIndex := 25, attributes := #[] }, { accessFlags := 25, nameIndex := 53, descriptorIndex := 25, attributes := #[] }, { accessFlags := 25, nameIndex := 24, descriptorIndex := 25, attributes := #[] }, { accessFlags := 25, nameIndex := 162, descriptorIndex := 25, attributes := #[] }, { accessFlags := 25, nameIndex := 187, descriptorIndex := 25, attributes := #[] }, { accessFlags := 26, nameIndex := 48, descriptorIndex := 25, attributes := #[] }, { accessFlags := 25, nameIndex := 277, descriptorIndex := 25, attributes := #[] }, { accessFlags := 25, nameIndex := 280, descriptorIndex := 25, attributes := #[] }, { accessFlags := 25, nameIndex := 282, descriptorIndex := 25, attributes := #[] }, { accessFlags := 25, nameIndex := 284, descriptorIndex := 25, attributes := #[] }, { accessFlags := 25, nameIndex := 286, descriptorIndex := 25, attributes := #[] }, { accessFlags := 25, nameIndex := 288, descriptorIndex := 25, attributes := #[] }, { accessFlags := 25, nameIndex := 290, descriptorIndex := 25, attributes := #[] }, { accessFlags := 25, nameIndex := 292, descriptorIndex := 25, attributes := #[] }, { accessFlags := 26, nameIndex := 108, descriptorIndex := 109, attributes := #[] }, { accessFlags := 25, nameIndex := 294, descriptorIndex := 25, attributes := #[] }])
  fields := #[{ name := "U", type := (.object "jdk/internal/misc/Unsafe"), accessFlags := 24, slot := 0, constantValue := 0 }, { name := "BIG_ENDIAN", type := .boolean, accessFlags := 26, slot := 1, constantValue := 0 }, { name := "LOG2_ARRAY_BOOLEAN_INDEX_SCALE", type := .int, accessFlags := 25, slot := 2, constantValue := 0 }, { name := "LOG2_ARRAY_BYTE_INDEX_SCALE", type := .int, accessFlags := 25, slot := 3, constantValue := 0 }, { name := "LOG2_ARRAY_CHAR_INDEX_SCALE", type := .int, accessFlags := 25, slot := 4, constantValue := 0 }, { name := "LOG2_ARRAY_SHORT_INDEX_SCALE", type := .int, accessFlags := 25, slot := 5, constantValue := 0 }, { name := "LOG2_ARRAY_INT_INDEX_SCALE", type := .int, accessFlags := 25, slot := 6, constantValue := 0 }, { name := "LOG2_ARRAY_LONG_INDEX_SCALE", type := .int, accessFlags := 25, slot := 7, constantValue := 0 }, { name := "LOG2_ARRAY_FLOAT_INDEX_SCALE", type := .int, accessFlags := 25, slot := 8, constantValue := 0 }, { name := "LOG2_ARRAY_DOUBLE_INDEX_SCALE", type := .int, accessFlags := 25, slot := 9, constantValue := 0 }, { name := "LOG2_BYTE_BIT_SIZE", type := .int, accessFlags := 26, slot := 10, constantValue := 0 }, { name := "T_BOOLEAN", type := .int, accessFlags := 25, slot := 11, constantValue := 0 }, { name := "T_CHAR", type := .int, accessFlags := 25, slot := 12, constantValue := 0 }, { name := "T_FLOAT", type := .int, accessFlags := 25, slot := 13, constantValue := 0 }, { name := "T_DOUBLE", type := .int, accessFlags := 25, slot := 14, constantValue := 0 }, { name := "T_BYTE", type := .int, accessFlags := 25, slot := 15, constantValue := 0 }, { name := "T_SHORT", type := .int, accessFlags := 25, slot := 16, constantValue := 0 }, { name := "T_INT", type := .int, accessFlags := 25, slot := 17, constantValue := 0 }, { name := "T_LONG", type := .int, accessFlags := 25, slot := 18, constantValue := 0 }, { name := "JLA", type := (.object "jdk/internal/access/JavaLangAccess"), accessFlags := 26, slot := 19, constantValue := 0 }, { name := "SOFT_MAX_ARRAY_LENGTH", type := .int, accessFlags := 25, slot := 20, constantValue := 0 }]
  methods := #[k16m0]
  instanceTypes := #[]
  staticTypes := #[(.object "jdk/internal/misc/Unsafe"), .boolean, .int, .int, .int, .int, .int, .int, .int, .int, .int, .int, .int, .int, .int, .int, .int, .int, .int, (.object "jdk/internal/access/JavaLangAccess"), .int]
  resolved := Array.replicate 378 none
  statics := none }

def pool17 : Array CpInfo := pool [(1, u "java/lang/Cloneable"), (0, .class_ 1), (0, u "java/lang/Object"), (0, .class_ 3)] 3

/-- java/lang/Cloneable -/
def k17 : Class := { plain "java/lang/Cloneable" (some 0) with
  accessFlags := 1537
  interfaces := #[]
  cf := some (fileOf pool17 2 #[] #[] 1537 4 #[] #[])
  fields := #[]
  methods := #[]
  instanceTypes := #[]
  staticTypes := #[]
  resolved := Array.replicate 8 none
  statics := none }

/-- the primitive byte -/
def k18 : Class := { plain "byte" none with kind := .primitive 'B', accessFlags := 0x411 }
/-- [B -/
def k19 : Class := { plain "[B" (some 0) with kind := .array 18 .byte, interfaces := #[17, 2], accessFlags := 1041 }

/-- the primitive char -/
def k20 : Class := { plain "char" none with kind := .primitive 'C', accessFlags := 0x411 }
/-- [C -/
def k21 : Class := { plain "[C" (some 0) with kind := .array 20 .char, interfaces := #[17, 2], accessFlags := 1041 }

/-- the primitive int -/
def k22 : Class := { plain "int" none with kind := .primitive 'I', accessFlags := 0x411 }
/-- [I -/
def k23 : Class := { plain "[I" (some 0) with kind := .array 22 .int, interfaces := #[17, 2], accessFlags := 1041 }

def heap : Heap := #[{ cls := 7, slots := #[.long 0, .int 1, .null, .int 0, .null, .int 0, .int 0], vm := .statics 7 },
  { cls := 10, slots := #[.int 0, .int 8, .int 0, .int 1], vm := .statics 10 },
  { cls := 12, slots := #[.null, .null, .null], vm := .statics 12 }]
def classes : Array Class := #[k0, k1, k2, k3, k4, k5, k6, k7, k8, k9, k10, k11, k12, k13, k14, k15, k16, k17, k18, k19, k20, k21, k22, k23]
def interned : List (Array UInt16 × Addr) := []
def slotsUsed : Nat := 14
def theMethod : MethodId := ⟨1, 5⟩
def args0 : Array Value := #[.int 5, .int 5, .int 5, .int 5, .int 5, .int 5]
def aboutOver (below : List Frame) : State where
  vm := { classes := classes, interned := interned.toArray }
  heap := heap
  slotsUsed := slotsUsed
  threads := #[{ frames := .invoking theMethod args0 :: below }]
def below0 : List Frame := [.native { method := ⟨0, 0⟩, args := #[] }]
def about1 : State := aboutOver below0
def p0 : Program := .bare "" "" ""
def e0 : Env := launch0.env 0 0 0
theorem w_frames : about1.frames = Frame.invoking theMethod args0 :: below0 := rfl
set_option maxRecDepth 65536 in
theorem w_args : argsFit about1.vm theMethod args0 = true := by decide +kernel
set_option maxRecDepth 65536 in
theorem w_heap : heapFits about1 = true := by decide +kernel
set_option maxRecDepth 65536 in
theorem w_runnable : about1.curStatus? = some .runnable := by decide +kernel
set_option maxRecDepth 65536 in
theorem w_alone : about1.alone = true := by decide +kernel
set_option maxRecDepth 65536 in
theorem w_named : about1.methodNamed? x = some theMethod := by decide +kernel
set_option maxRecDepth 65536 in
theorem w_hears : about1.hears theMethod below0 = true := by decide +kernel
set_option maxRecDepth 65536 in
theorem w_ripe : about1.ripe theMethod args0 below0 = true := by decide +kernel
theorem w_running : about1.status = .running := rfl
set_option maxRecDepth 65536 in
theorem w_room : about1.hasRoom e0.platform room_1 = true :=
  launch0.hasRoom_least _ room_1 (by decide +kernel) (by decide +kernel) (by decide +kernel) (by decide +kernel) (by decide +kernel) (by decide +kernel)
theorem allAtoms_all (ts : List Jvm.Cond) (a : Array Jvm.Value) (st : Jvm.State) : (allAtoms ts).before a st = ts.all (fun c => c.before a st) := by
  induction ts with
  | nil => rfl
  | cons c t ih =>
    show (Jvm.Cond.and c (allAtoms t)).before a st = _
    rw [Jvm.Cond.before_and, ih, List.all_cons]
def words1 : List Jvm.Cond := Jvm.Cond.code x code maxLocals ret :: tables_1
/-- a 'code' word, met by the world's own term for the bytes: nothing is compared byte by byte -/
theorem code_word {y : MethodName} {bytes : ByteArray} {mx : Nat} {rt : Option FieldType} {a : Array Value} {s : State} {m : MethodId} {meth : Method} {c : Code} (h1 : s.methodNamed? y = some m) (h2 : s.vm.method? m = some meth) (h3 : meth.code = some c) (h4 : c.code = bytes)
    (h5 : (c.maxLocals == mx && c.exceptionTable.isEmpty && decide (c.maxStack ≤ mostOperands) && decide (meth.sig.returnType = rt) && !meth.locks && decide (parseMethodDescriptor y.desc = some meth.sig)) = true) : (Jvm.Cond.code y bytes mx rt).before a s = true := by
  simp only [Bool.and_eq_true, beq_iff_eq, Bool.not_eq_true', decide_eq_true_eq] at h5
  obtain ⟨⟨⟨⟨⟨g1, g2⟩, g3⟩, g4⟩, g5⟩, g6⟩ := h5
  simp [Cond.before, Cond.holds, Cond.value, h1, h2, h3, h4, g1, g2, g3, g4, g5, g6]
def isCode : Jvm.Cond → Bool
  | .code _ _ _ _ => true
  | _ => false
theorem all_split {L : List Jvm.Cond} {P : Jvm.Cond → Bool} (h1 : L.all (fun c => isCode c || P c) = true) (h2 : ∀ c ∈ L.filter isCode, P c = true) : L.all P = true := by
  refine List.all_eq_true.mpr fun c hc => ?_
  have h := List.all_eq_true.mp h1 c hc
  rcases Bool.eq_false_or_eq_true (isCode c) with hi | hi
  · exact h2 c (List.mem_filter.mpr ⟨hc, hi⟩)
  · simpa [hi] using h
set_option maxRecDepth 65536 in
theorem w_c0 : (Jvm.Cond.code x code maxLocals ret).before args0 about1 = true := code_word (m := ⟨1, 5⟩) (meth := k1m5) (c := k1c5) (by decide +kernel) rfl rfl rfl (by decide +kernel)
set_option maxRecDepth 65536 in
theorem w_c1 : (Jvm.Cond.code ({ cls := "com/example/elsewhere/elsewhere/SubfieldWithoutSeparatorPinLaw", name := "sel", desc := "(I)C" } : Jvm.MethodName) method_2_code (2 : Nat) (Option.some Jvm.ClassFile.FieldType.char)).before args0 about1 = true := code_word (m := ⟨1, 1⟩) (meth := k1m1) (c := k1c1) (by decide +kernel) rfl rfl rfl (by decide +kernel)
set_option maxRecDepth 65536 in
theorem w_c2 : (Jvm.Cond.code ({ cls := "com/example/elsewhere/elsewhere/SubfieldWithoutSeparatorPinLaw", name := "str", desc := "(I[C)Ljava/lang/String;" } : Jvm.MethodName) method_3_code (2 : Nat) (Option.some (Jvm.ClassFile.FieldType.object "java/lang/String"))).before args0 about1 = true := code_word (m := ⟨1, 2⟩) (meth := k1m2) (c := k1c2) (by decide +kernel) rfl rfl rfl (by decide +kernel)
set_option maxRecDepth 65536 in
theorem w_c3 : (Jvm.Cond.code ({ cls := "java/lang/String", name := "<init>", desc := "([C)V" } : Jvm.MethodName) jdk_42_method_3_code (2 : Nat) (Option.none : Option Jvm.ClassFile.FieldType)).before args0 about1 = true := code_word (m := ⟨7, 1⟩) (meth := k7m1) (c := k7c1) (by decide +kernel) rfl rfl rfl (by decide +kernel)
set_option maxRecDepth 65536 in
theorem w_c4 : (Jvm.Cond.code ({ cls := "java/lang/String", name := "<init>", desc := "([CIILjava/lang/Void;)V" } : Jvm.MethodName) jdk_42_method_149_code (6 : Nat) (Option.none : Option Jvm.ClassFile.FieldType)).before args0 about1 = true := code_word (m := ⟨7, 8⟩) (meth := k7m8) (c := k7c8) (by decide +kernel) rfl rfl rfl (by decide +kernel)
set_option maxRecDepth 65536 in
theorem w_c5 : (Jvm.Cond.code ({ cls := "java/lang/Object", name := "<init>", desc := "()V" } : Jvm.MethodName) object_method_1_code (1 : Nat) (Option.none : Option Jvm.ClassFile.FieldType)).before args0 about1 = true := code_word (m := ⟨0, 0⟩) (meth := k0m0) (c := k0c0) (by decide +kernel) rfl rfl rfl (by decide +kernel)
set_option maxRecDepth 65536 in
theorem w_c6 : (Jvm.Cond.code ({ cls := "com/example/elsewhere/elsewhere/Field$Subfield", name := "<init>", desc := "(ILjava/lang/String;)V" } : Jvm.MethodName) prog_11_method_1_code (3 : Nat) (Option.none : Option Jvm.ClassFile.FieldType)).before args0 about1 = true := code_word (m := ⟨9, 0⟩) (meth := k9m0) (c := k9c0) (by decide +kernel) rfl rfl rfl (by decide +kernel)
set_option maxRecDepth 65536 in
theorem w_c7 : (Jvm.Cond.code ({ cls := "java/lang/Record", name := "<init>", desc := "()V" } : Jvm.MethodName) jdk_30_method_1_code (1 : Nat) (Option.none : Option Jvm.ClassFile.FieldType)).before args0 about1 = true := code_word (m := ⟨8, 0⟩) (meth := k8m0) (c := k8c0) (by decide +kernel) rfl rfl rfl (by decide +kernel)
set_option maxRecDepth 65536 in
theorem w_c8 : (Jvm.Cond.code ({ cls := "com/example/elsewhere/elsewhere/Field$Subfield", name := "withoutSeparator", desc := "()Ljava/lang/String;" } : Jvm.MethodName) prog_11_method_3_code (3 : Nat) (Option.some (Jvm.ClassFile.FieldType.object "java/lang/String"))).before args0 about1 = true := code_word (m := ⟨9, 1⟩) (meth := k9m1) (c := k9c1) (by decide +kernel) rfl rfl rfl (by decide +kernel)
set_option maxRecDepth 65536 in
theorem w_c9 : (Jvm.Cond.code ({ cls := "java/lang/String", name := "length", desc := "()I" } : Jvm.MethodName) jdk_42_method_54_code (1 : Nat) (Option.some Jvm.ClassFile.FieldType.int)).before args0 about1 = true := code_word (m := ⟨7, 2⟩) (meth := k7m2) (c := k7c2) (by decide +kernel) rfl rfl rfl (by decide +kernel)
set_option maxRecDepth 65536 in
theorem w_c10 : (Jvm.Cond.code ({ cls := "java/lang/String", name := "coder", desc := "()B" } : Jvm.MethodName) jdk_42_method_152_code (1 : Nat) (Option.some Jvm.ClassFile.FieldType.byte)).before args0 about1 = true := code_word (m := ⟨7, 10⟩) (meth := k7m10) (c := k7c10) (by decide +kernel) rfl rfl rfl (by decide +kernel)
set_option maxRecDepth 65536 in
theorem w_c11 : (Jvm.Cond.code ({ cls := "com/example/elsewhere/elsewhere/Field$Subfield", name := "endBeforeSpaces", desc := "(II)I" } : Jvm.MethodName) prog_11_method_5_code (4 : Nat) (Option.some Jvm.ClassFile.FieldType.int)).before args0 about1 = true := code_word (m := ⟨9, 3⟩) (meth := k9m3) (c := k9c3) (by decide +kernel) rfl rfl rfl (by decide +kernel)
set_option maxRecDepth 65536 in
theorem w_c12 : (Jvm.Cond.code ({ cls := "com/example/elsewhere/elsewhere/Field$Subfield", name := "endBeforeSeparator", desc := "(II)I" } : Jvm.MethodName) prog_11_method_4_code (3 : Nat) (Option.some Jvm.ClassFile.FieldType.int)).before args0 about1 = true := code_word (m := ⟨9, 2⟩) (meth := k9m2) (c := k9c2) (by decide +kernel) rfl rfl rfl (by decide +kernel)
set_option maxRecDepth 65536 in
theorem w_c13 : (Jvm.Cond.code ({ cls := "com/example/elsewhere/elsewhere/SubfieldWithoutSeparatorPinLaw", name := "strip", desc := "([CI)I" } : Jvm.MethodName) method_4_code (3 : Nat) (Option.some Jvm.ClassFile.FieldType.int)).before args0 about1 = true := code_word (m := ⟨1, 3⟩) (meth := k1m3) (c := k1c3) (by decide +kernel) rfl rfl rfl (by decide +kernel)
set_option maxRecDepth 65536 in
theorem w_c14 : (Jvm.Cond.code ({ cls := "java/lang/String", name := "equals", desc := "(Ljava/lang/Object;)Z" } : Jvm.MethodName) jdk_42_method_66_code (3 : Nat) (Option.some Jvm.ClassFile.FieldType.boolean)).before args0 about1 = true := code_word (m := ⟨7, 4⟩) (meth := k7m4) (c := k7c4) (by decide +kernel) rfl rfl rfl (by decide +kernel)
set_option maxRecDepth 65536 in
theorem w_c15 : (Jvm.Cond.code ({ cls := "java/lang/StringUTF16", name := "compress", desc := "([CII)[B" } : Jvm.MethodName) jdk_52_method_16_code (6 : Nat) (Option.some (Jvm.ClassFile.FieldType.array Jvm.ClassFile.FieldType.byte))).before args0 about1 = true := code_word (m := ⟨10, 8⟩) (meth := k10m8) (c := k10c8) (by decide +kernel) rfl rfl rfl (by decide +kernel)
set_option maxRecDepth 65536 in
theorem w_c16 : (Jvm.Cond.code ({ cls := "java/lang/StringUTF16", name := "compress", desc := "([CI[BII)I" } : Jvm.MethodName) jdk_52_method_21_code (7 : Nat) (Option.some Jvm.ClassFile.FieldType.int)).before args0 about1 = true := code_word (m := ⟨10, 10⟩) (meth := k10m10) (c := k10c10) (by decide +kernel) rfl rfl rfl (by decide +kernel)
set_option maxRecDepth 65536 in
theorem w_c17 : (Jvm.Cond.code ({ cls := "java/lang/StringUTF16", name := "coderFromArrayLen", desc := "([BI)B" } : Jvm.MethodName) jdk_52_method_15_code (2 : Nat) (Option.some Jvm.ClassFile.FieldType.byte)).before args0 about1 = true := code_word (m := ⟨10, 7⟩) (meth := k10m7) (c := k10c7) (by decide +kernel) rfl rfl rfl (by decide +kernel)
set_option maxRecDepth 65536 in
theorem w_c18 : (Jvm.Cond.code ({ cls := "java/lang/String", name := "charAt", desc := "(I)C" } : Jvm.MethodName) jdk_42_method_56_code (2 : Nat) (Option.some Jvm.ClassFile.FieldType.char)).before args0 about1 = true := code_word (m := ⟨7, 3⟩) (meth := k7m3) (c := k7c3) (by decide +kernel) rfl rfl rfl (by decide +kernel)
set_option maxRecDepth 65536 in
theorem w_c19 : (Jvm.Cond.code ({ cls := "java/lang/String", name := "isLatin1", desc := "()Z" } : Jvm.MethodName) jdk_42_method_154_code (1 : Nat) (Option.some Jvm.ClassFile.FieldType.boolean)).before args0 about1 = true := code_word (m := ⟨7, 11⟩) (meth := k7m11) (c := k7c11) (by decide +kernel) rfl rfl rfl (by decide +kernel)
set_option maxRecDepth 65536 in
theorem w_c20 : (Jvm.Cond.code ({ cls := "java/lang/StringLatin1", name := "charAt", desc := "([BI)C" } : Jvm.MethodName) jdk_43_method_2_code (2 : Nat) (Option.some Jvm.ClassFile.FieldType.char)).before args0 about1 = true := code_word (m := ⟨11, 1⟩) (meth := k11m1) (c := k11c1) (by decide +kernel) rfl rfl rfl (by decide +kernel)
set_option maxRecDepth 65536 in
theorem w_c21 : (Jvm.Cond.code ({ cls := "java/lang/String", name := "checkIndex", desc := "(II)V" } : Jvm.MethodName) jdk_42_method_155_code (2 : Nat) (Option.none : Option Jvm.ClassFile.FieldType)).before args0 about1 = true := code_word (m := ⟨7, 12⟩) (meth := k7m12) (c := k7c12) (by decide +kernel) rfl rfl rfl (by decide +kernel)
set_option maxRecDepth 65536 in
theorem w_c22 : (Jvm.Cond.code ({ cls := "jdk/internal/util/Preconditions", name := "checkIndex", desc := "(IILjava/util/function/BiFunction;)I" } : Jvm.MethodName) jdk_41_method_11_code (3 : Nat) (Option.some Jvm.ClassFile.FieldType.int)).before args0 about1 = true := code_word (m := ⟨12, 1⟩) (meth := k12m1) (c := k12c1) (by decide +kernel) rfl rfl rfl (by decide +kernel)
set_option maxRecDepth 65536 in
theorem w_c23 : (Jvm.Cond.code ({ cls := "java/lang/String", name := "indexOf", desc := "(I)I" } : Jvm.MethodName) jdk_42_method_79_code (2 : Nat) (Option.some Jvm.ClassFile.FieldType.int)).before args0 about1 = true := code_word (m := ⟨7, 5⟩) (meth := k7m5) (c := k7c5) (by decide +kernel) rfl rfl rfl (by decide +kernel)
set_option maxRecDepth 65536 in
theorem w_c24 : (Jvm.Cond.code ({ cls := "java/lang/String", name := "indexOf", desc := "(II)I" } : Jvm.MethodName) jdk_42_method_80_code (3 : Nat) (Option.some Jvm.ClassFile.FieldType.int)).before args0 about1 = true := code_word (m := ⟨7, 6⟩) (meth := k7m6) (c := k7c6) (by decide +kernel) rfl rfl rfl (by decide +kernel)
set_option maxRecDepth 65536 in
theorem w_c25 : (Jvm.Cond.code ({ cls := "java/lang/StringLatin1", name := "indexOf", desc := "([BIII)I" } : Jvm.MethodName) jdk_43_method_22_code (4 : Nat) (Option.some Jvm.ClassFile.FieldType.int)).before args0 about1 = true := code_word (m := ⟨11, 3⟩) (meth := k11m3) (c := k11c3) (by decide +kernel) rfl rfl rfl (by decide +kernel)
set_option maxRecDepth 65536 in
theorem w_c26 : (Jvm.Cond.code ({ cls := "java/lang/StringLatin1", name := "canEncode", desc := "(I)Z" } : Jvm.MethodName) jdk_43_method_4_code (1 : Nat) (Option.some Jvm.ClassFile.FieldType.boolean)).before args0 about1 = true := code_word (m := ⟨11, 2⟩) (meth := k11m2) (c := k11c2) (by decide +kernel) rfl rfl rfl (by decide +kernel)
set_option maxRecDepth 65536 in
theorem w_c27 : (Jvm.Cond.code ({ cls := "java/lang/Math", name := "max", desc := "(II)I" } : Jvm.MethodName) jdk_29_method_65_code (2 : Nat) (Option.some Jvm.ClassFile.FieldType.int)).before args0 about1 = true := code_word (m := ⟨13, 1⟩) (meth := k13m1) (c := k13c1) (by decide +kernel) rfl rfl rfl (by decide +kernel)
set_option maxRecDepth 65536 in
theorem w_c28 : (Jvm.Cond.code ({ cls := "java/lang/Math", name := "min", desc := "(II)I" } : Jvm.MethodName) jdk_29_method_69_code (2 : Nat) (Option.some Jvm.ClassFile.FieldType.int)).before args0 about1 = true := code_word (m := ⟨13, 2⟩) (meth := k13m2) (c := k13c2) (by decide +kernel) rfl rfl rfl (by decide +kernel)
set_option maxRecDepth 65536 in
theorem w_c29 : (Jvm.Cond.code ({ cls := "java/lang/StringLatin1", name := "indexOfChar", desc := "([BIII)I" } : Jvm.MethodName) jdk_43_method_23_code (6 : Nat) (Option.some Jvm.ClassFile.FieldType.int)).before args0 about1 = true := code_word (m := ⟨11, 4⟩) (meth := k11m4) (c := k11c4) (by decide +kernel) rfl rfl rfl (by decide +kernel)
set_option maxRecDepth 65536 in
theorem w_c30 : (Jvm.Cond.code ({ cls := "java/lang/String", name := "substring", desc := "(II)Ljava/lang/String;" } : Jvm.MethodName) jdk_42_method_92_code (5 : Nat) (Option.some (Jvm.ClassFile.FieldType.object "java/lang/String"))).before args0 about1 = true := code_word (m := ⟨7, 7⟩) (meth := k7m7) (c := k7c7) (by decide +kernel) rfl rfl rfl (by decide +kernel)
set_option maxRecDepth 65536 in
theorem w_c31 : (Jvm.Cond.code ({ cls := "java/lang/String", name := "checkBoundsBeginEnd", desc := "(III)V" } : Jvm.MethodName) jdk_42_method_158_code (3 : Nat) (Option.none : Option Jvm.ClassFile.FieldType)).before args0 about1 = true := code_word (m := ⟨7, 14⟩) (meth := k7m14) (c := k7c14) (by decide +kernel) rfl rfl rfl (by decide +kernel)
set_option maxRecDepth 65536 in
theorem w_c32 : (Jvm.Cond.code ({ cls := "jdk/internal/util/Preconditions", name := "checkFromToIndex", desc := "(IIILjava/util/function/BiFunction;)I" } : Jvm.MethodName) jdk_41_method_12_code (4 : Nat) (Option.some Jvm.ClassFile.FieldType.int)).before args0 about1 = true := code_word (m := ⟨12, 2⟩) (meth := k12m2) (c := k12c2) (by decide +kernel) rfl rfl rfl (by decide +kernel)
set_option maxRecDepth 65536 in
theorem w_c33 : (Jvm.Cond.code ({ cls := "java/lang/StringLatin1", name := "newString", desc := "([BII)Ljava/lang/String;" } : Jvm.MethodName) jdk_43_method_47_code (3 : Nat) (Option.some (Jvm.ClassFile.FieldType.object "java/lang/String"))).before args0 about1 = true := code_word (m := ⟨11, 5⟩) (meth := k11m5) (c := k11c5) (by decide +kernel) rfl rfl rfl (by decide +kernel)
set_option maxRecDepth 65536 in
theorem w_c34 : (Jvm.Cond.code ({ cls := "java/util/Arrays", name := "copyOfRange", desc := "([BII)[B" } : Jvm.MethodName) jdk_65_method_132_code (3 : Nat) (Option.some (Jvm.ClassFile.FieldType.array Jvm.ClassFile.FieldType.byte))).before args0 about1 = true := code_word (m := ⟨14, 2⟩) (meth := k14m2) (c := k14c2) (by decide +kernel) rfl rfl rfl (by decide +kernel)
set_option maxRecDepth 65536 in
theorem w_c35 : (Jvm.Cond.code ({ cls := "java/util/Arrays", name := "copyOfRangeByte", desc := "([BII)[B" } : Jvm.MethodName) jdk_65_method_133_code (5 : Nat) (Option.some (Jvm.ClassFile.FieldType.array Jvm.ClassFile.FieldType.byte))).before args0 about1 = true := code_word (m := ⟨14, 3⟩) (meth := k14m3) (c := k14c3) (by decide +kernel) rfl rfl rfl (by decide +kernel)
set_option maxRecDepth 65536 in
theorem w_c36 : (Jvm.Cond.code ({ cls := "java/util/Arrays", name := "checkLength", desc := "(II)V" } : Jvm.MethodName) jdk_65_method_131_code (2 : Nat) (Option.none : Option Jvm.ClassFile.FieldType)).before args0 about1 = true := code_word (m := ⟨14, 1⟩) (meth := k14m1) (c := k14c1) (by decide +kernel) rfl rfl rfl (by decide +kernel)
set_option maxRecDepth 65536 in
theorem w_c37 : (Jvm.Cond.code ({ cls := "java/lang/String", name := "<init>", desc := "([BB)V" } : Jvm.MethodName) jdk_42_method_151_code (3 : Nat) (Option.none : Option Jvm.ClassFile.FieldType)).before args0 about1 = true := code_word (m := ⟨7, 9⟩) (meth := k7m9) (c := k7c9) (by decide +kernel) rfl rfl rfl (by decide +kernel)
set_option maxRecDepth 65536 in
theorem w_c38 : (Jvm.Cond.code ({ cls := "com/example/elsewhere/elsewhere/SubfieldWithoutSeparatorPinLaw", name := "prefixEq", desc := "(Ljava/lang/String;[CI)Z" } : Jvm.MethodName) method_5_code (3 : Nat) (Option.some Jvm.ClassFile.FieldType.boolean)).before args0 about1 = true := code_word (m := ⟨1, 4⟩) (meth := k1m4) (c := k1c4) (by decide +kernel) rfl rfl rfl (by decide +kernel)
set_option maxRecDepth 65536 in
theorem w_c39 : (Jvm.Cond.code ({ cls := "java/lang/StringUTF16", name := "toBytes", desc := "([CII)[B" } : Jvm.MethodName) jdk_52_method_14_code (5 : Nat) (Option.some (Jvm.ClassFile.FieldType.array Jvm.ClassFile.FieldType.byte))).before args0 about1 = true := code_word (m := ⟨10, 6⟩) (meth := k10m6) (c := k10c6) (by decide +kernel) rfl rfl rfl (by decide +kernel)
set_option maxRecDepth 65536 in
theorem w_c40 : (Jvm.Cond.code ({ cls := "java/lang/StringUTF16", name := "newBytesFor", desc := "(I)[B" } : Jvm.MethodName) jdk_52_method_2_code (1 : Nat) (Option.some (Jvm.ClassFile.FieldType.array Jvm.ClassFile.FieldType.byte))).before args0 about1 = true := code_word (m := ⟨10, 1⟩) (meth := k10m1) (c := k10c1) (by decide +kernel) rfl rfl rfl (by decide +kernel)
set_option maxRecDepth 65536 in
theorem w_c41 : (Jvm.Cond.code ({ cls := "java/lang/StringUTF16", name := "newBytesLength", desc := "(I)I" } : Jvm.MethodName) jdk_52_method_3_code (1 : Nat) (Option.some Jvm.ClassFile.FieldType.int)).before args0 about1 = true := code_word (m := ⟨10, 2⟩) (meth := k10m2) (c := k10c2) (by decide +kernel) rfl rfl rfl (by decide +kernel)
set_option maxRecDepth 65536 in
theorem w_c42 : (Jvm.Cond.code ({ cls := "java/lang/StringUTF16", name := "putChar", desc := "([BII)V" } : Jvm.MethodName) jdk_52_method_4_code (3 : Nat) (Option.none : Option Jvm.ClassFile.FieldType)).before args0 about1 = true := code_word (m := ⟨10, 3⟩) (meth := k10m3) (c := k10c3) (by decide +kernel) rfl rfl rfl (by decide +kernel)
set_option maxRecDepth 65536 in
theorem w_c43 : (Jvm.Cond.code ({ cls := "java/lang/StringUTF16", name := "getChar", desc := "([BI)C" } : Jvm.MethodName) jdk_52_method_5_code (2 : Nat) (Option.some Jvm.ClassFile.FieldType.char)).before args0 about1 = true := code_word (m := ⟨10, 4⟩) (meth := k10m4) (c := k10c4) (by decide +kernel) rfl rfl rfl (by decide +kernel)
set_option maxRecDepth 65536 in
theorem w_c44 : (Jvm.Cond.code ({ cls := "java/lang/StringUTF16", name := "charAt", desc := "([BI)C" } : Jvm.MethodName) jdk_52_method_83_code (2 : Nat) (Option.some Jvm.ClassFile.FieldType.char)).before args0 about1 = true := code_word (m := ⟨10, 13⟩) (meth := k10m13) (c := k10c13) (by decide +kernel) rfl rfl rfl (by decide +kernel)
set_option maxRecDepth 65536 in
theorem w_c45 : (Jvm.Cond.code ({ cls := "java/lang/StringUTF16", name := "checkIndex", desc := "(I[B)V" } : Jvm.MethodName) jdk_52_method_91_code (2 : Nat) (Option.none : Option Jvm.ClassFile.FieldType)).before args0 about1 = true := code_word (m := ⟨10, 14⟩) (meth := k10m14) (c := k10c14) (by decide +kernel) rfl rfl rfl (by decide +kernel)
set_option maxRecDepth 65536 in
theorem w_c46 : (Jvm.Cond.code ({ cls := "java/lang/StringUTF16", name := "length", desc := "([B)I" } : Jvm.MethodName) jdk_52_method_6_code (1 : Nat) (Option.some Jvm.ClassFile.FieldType.int)).before args0 about1 = true := code_word (m := ⟨10, 5⟩) (meth := k10m5) (c := k10c5) (by decide +kernel) rfl rfl rfl (by decide +kernel)
set_option maxRecDepth 65536 in
theorem w_c47 : (Jvm.Cond.code ({ cls := "java/lang/StringUTF16", name := "newString", desc := "([BII)Ljava/lang/String;" } : Jvm.MethodName) jdk_52_method_69_code (5 : Nat) (Option.some (Jvm.ClassFile.FieldType.object "java/lang/String"))).before args0 about1 = true := code_word (m := ⟨10, 12⟩) (meth := k10m12) (c := k10c12) (by decide +kernel) rfl rfl rfl (by decide +kernel)
set_option maxRecDepth 65536 in
theorem w_c48 : (Jvm.Cond.code ({ cls := "java/lang/StringUTF16", name := "compress", desc := "([BII)[B" } : Jvm.MethodName) jdk_52_method_17_code (6 : Nat) (Option.some (Jvm.ClassFile.FieldType.array Jvm.ClassFile.FieldType.byte))).before args0 about1 = true := code_word (m := ⟨10, 9⟩) (meth := k10m9) (c := k10c9) (by decide +kernel) rfl rfl rfl (by decide +kernel)
set_option maxRecDepth 65536 in
theorem w_c49 : (Jvm.Cond.code ({ cls := "java/lang/StringUTF16", name := "compress", desc := "([BI[BII)I" } : Jvm.MethodName) jdk_52_method_22_code (7 : Nat) (Option.some Jvm.ClassFile.FieldType.int)).before args0 about1 = true := code_word (m := ⟨10, 11⟩) (meth := k10m11) (c := k10c11) (by decide +kernel) rfl rfl rfl (by decide +kernel)
set_option maxRecDepth 65536 in
theorem w_c50 : (Jvm.Cond.code ({ cls := "java/lang/StringUTF16", name := "checkBoundsOffCount", desc := "(II[B)V" } : Jvm.MethodName) jdk_52_method_94_code (3 : Nat) (Option.none : Option Jvm.ClassFile.FieldType)).before args0 about1 = true := code_word (m := ⟨10, 15⟩) (meth := k10m15) (c := k10c15) (by decide +kernel) rfl rfl rfl (by decide +kernel)
set_option maxRecDepth 65536 in
theorem w_c51 : (Jvm.Cond.code ({ cls := "java/lang/String", name := "checkBoundsOffCount", desc := "(III)I" } : Jvm.MethodName) jdk_42_method_157_code (3 : Nat) (Option.some Jvm.ClassFile.FieldType.int)).before args0 about1 = true := code_word (m := ⟨7, 13⟩) (meth := k7m13) (c := k7c13) (by decide +kernel) rfl rfl rfl (by decide +kernel)
set_option maxRecDepth 65536 in
theorem w_c52 : (Jvm.Cond.code ({ cls := "jdk/internal/util/Preconditions", name := "checkFromIndexSize", desc := "(IIILjava/util/function/BiFunction;)I" } : Jvm.MethodName) jdk_41_method_13_code (4 : Nat) (Option.some Jvm.ClassFile.FieldType.int)).before args0 about1 = true := code_word (m := ⟨12, 3⟩) (meth := k12m3) (c := k12c3) (by decide +kernel) rfl rfl rfl (by decide +kernel)
def codes1 : List Jvm.Cond := [Jvm.Cond.code x code maxLocals ret, Jvm.Cond.code ({ cls := "com/example/elsewhere/elsewhere/SubfieldWithoutSeparatorPinLaw", name := "sel", desc := "(I)C" } : Jvm.MethodName) method_2_code (2 : Nat) (Option.some Jvm.ClassFile.FieldType.char), Jvm.Cond.code ({ cls := "com/example/elsewhere/elsewhere/SubfieldWithoutSeparatorPinLaw", name := "str", desc := "(I[C)Ljava/lang/String;" } : Jvm.MethodName) method_3_code (2 : Nat) (Option.some (Jvm.ClassFile.FieldType.object "java/lang/String")), Jvm.Cond.code ({ cls := "java/lang/String", name := "<init>", desc := "([C)V" } : Jvm.MethodName) jdk_42_method_3_code (2 : Nat) (Option.none : Option Jvm.ClassFile.FieldType), Jvm.Cond.code ({ cls := "java/lang/String", name := "<init>", desc := "([CIILjava/lang/Void;)V" } : Jvm.MethodName) jdk_42_method_149_code (6 : Nat) (Option.none : Option Jvm.ClassFile.FieldType), Jvm.Cond.code ({ cls := "java/lang/Object", name := "<init>", desc := "()V" } : Jvm.MethodName) object_method_1_code (1 : Nat) (Option.none : Option Jvm.ClassFile.FieldType), Jvm.Cond.code ({ cls := "com/example/elsewhere/elsewhere/Field$Subfield", name := "<init>", desc := "(ILjava/lang/String;)V" } : Jvm.MethodName) prog_11_method_1_code (3 : Nat) (Option.none : Option Jvm.ClassFile.FieldType), Jvm.Cond.code ({ cls := "java/lang/Record", name := "<init>", desc := "()V" } : Jvm.MethodName) jdk_30_method_1_code (1 : Nat) (Option.none : Option Jvm.ClassFile.FieldType), Jvm.Cond.code ({ cls := "com/example/elsewhere/elsewhere/Field$Subfield", name := "withoutSeparator", desc := "()Ljava/lang/String;" } : Jvm.MethodName) prog_11_method_3_code (3 : Nat) (Option.some (Jvm.ClassFile.FieldType.object "java/lang/String")), Jvm.Cond.code ({ cls := "java/lang/String", name := "length", desc := "()I" } : Jvm.MethodName) jdk_42_method_54_code (1 : Nat) (Option.some Jvm.ClassFile.FieldType.int), Jvm.Cond.code ({ cls := "java/lang/String", name := "coder", desc := "()B" } : Jvm.MethodName) jdk_42_method_152_code (1 : Nat) (Option.some Jvm.ClassFile.FieldType.byte), Jvm.Cond.code ({ cls := "com/example/elsewhere/elsewhere/Field$Subfield", name := "endBeforeSpaces", desc := "(II)I" } : Jvm.MethodName) prog_11_method_5_code (4 : Nat) (Option.some Jvm.ClassFile.FieldType.int), Jvm.Cond.code ({ cls := "com/example/elsewhere/elsewhere/Field$Subfield", name := "endBeforeSeparator", desc := "(II)I" } : Jvm.MethodName) prog_11_method_4_code (3 : Nat) (Option.some Jvm.ClassFile.FieldType.int), Jvm.Cond.code ({ cls := "com/example/elsewhere/elsewhere/SubfieldWithoutSeparatorPinLaw", name := "strip", desc := "([CI)I" } : Jvm.MethodName) method_4_code (3 : Nat) (Option.some Jvm.ClassFile.FieldType.int), Jvm.Cond.code ({ cls := "java/lang/String", name := "equals", desc := "(Ljava/lang/Object;)Z" } : Jvm.MethodName) jdk_42_method_66_code (3 : Nat) (Option.some Jvm.ClassFile.FieldType.boolean), Jvm.Cond.code ({ cls := "java/lang/StringUTF16", name := "compress", desc := "([CII)[B" } : Jvm.MethodName) jdk_52_method_16_code (6 : Nat) (Option.some (Jvm.ClassFile.FieldType.array Jvm.ClassFile.FieldType.byte)), Jvm.Cond.code ({ cls := "java/lang/StringUTF16", name := "compress", desc := "([CI[BII)I" } : Jvm.MethodName) jdk_52_method_21_code (7 : Nat) (Option.some Jvm.ClassFile.FieldType.int), Jvm.Cond.code ({ cls := "java/lang/StringUTF16", name := "coderFromArrayLen", desc := "([BI)B" } : Jvm.MethodName) jdk_52_method_15_code (2 : Nat) (Option.some Jvm.ClassFile.FieldType.byte), Jvm.Cond.code ({ cls := "java/lang/String", name := "charAt", desc := "(I)C" } : Jvm.MethodName) jdk_42_method_56_code (2 : Nat) (Option.some Jvm.ClassFile.FieldType.char), Jvm.Cond.code ({ cls := "java/lang/String", name := "isLatin1", desc := "()Z" } : Jvm.MethodName) jdk_42_method_154_code (1 : Nat) (Option.some Jvm.ClassFile.FieldType.boolean), Jvm.Cond.code ({ cls := "java/lang/StringLatin1", name := "charAt", desc := "([BI)C" } : Jvm.MethodName) jdk_43_method_2_code (2 : Nat) (Option.some Jvm.ClassFile.FieldType.char), Jvm.Cond.code ({ cls := "java/lang/String", name := "checkIndex", desc := "(II)V" } : Jvm.MethodName) jdk_42_method_155_code (2 : Nat) (Option.none : Option Jvm.ClassFile.FieldType), Jvm.Cond.code ({ cls := "jdk/internal/util/Preconditions", name := "checkIndex", desc := "(IILjava/util/function/BiFunction;)I" } : Jvm.MethodName) jdk_41_method_11_code (3 : Nat) (Option.some Jvm.ClassFile.FieldType.int), Jvm.Cond.code ({ cls := "java/lang/String", name := "indexOf", desc := "(I)I" } : Jvm.MethodName) jdk_42_method_79_code (2 : Nat) (Option.some Jvm.ClassFile.FieldType.int), Jvm.Cond.code ({ cls := "java/lang/String", name := "indexOf", desc := "(II)I" } : Jvm.MethodName) jdk_42_method_80_code (3 : Nat) (Option.some Jvm.ClassFile.FieldType.int), Jvm.Cond.code ({ cls := "java/lang/StringLatin1", name := "indexOf", desc := "([BIII)I" } : Jvm.MethodName) jdk_43_method_22_code (4 : Nat) (Option.some Jvm.ClassFile.FieldType.int), Jvm.Cond.code ({ cls := "java/lang/StringLatin1", name := "canEncode", desc := "(I)Z" } : Jvm.MethodName) jdk_43_method_4_code (1 : Nat) (Option.some Jvm.ClassFile.FieldType.boolean), Jvm.Cond.code ({ cls := "java/lang/Math", name := "max", desc := "(II)I" } : Jvm.MethodName) jdk_29_method_65_code (2 : Nat) (Option.some Jvm.ClassFile.FieldType.int), Jvm.Cond.code ({ cls := "java/lang/Math", name := "min", desc := "(II)I" } : Jvm.MethodName) jdk_29_method_69_code (2 : Nat) (Option.some Jvm.ClassFile.FieldType.int), Jvm.Cond.code ({ cls := "java/lang/StringLatin1", name := "indexOfChar", desc := "([BIII)I" } : Jvm.MethodName) jdk_43_method_23_code (6 : Nat) (Option.some Jvm.ClassFile.FieldType.int), Jvm.Cond.code ({ cls := "java/lang/String", name := "substring", desc := "(II)Ljava/lang/String;" } : Jvm.MethodName) jdk_42_method_92_code (5 : Nat) (Option.some (Jvm.ClassFile.FieldType.object "java/lang/String")), Jvm.Cond.code ({ cls := "java/lang/String", name := "checkBoundsBeginEnd", desc := "(III)V" } : Jvm.MethodName) jdk_42_method_158_code (3 : Nat) (Option.none : Option Jvm.ClassFile.FieldType), Jvm.Cond.code ({ cls := "jdk/internal/util/Preconditions", name := "checkFromToIndex", desc := "(IIILjava/util/function/BiFunction;)I" } : Jvm.MethodName) jdk_41_method_12_code (4 : Nat) (Option.some Jvm.ClassFile.FieldType.int), Jvm.Cond.code ({ cls := "java/lang/StringLatin1", name := "newString", desc := "([BII)Ljava/lang/String;" } : Jvm.MethodName) jdk_43_method_47_code (3 : Nat) (Option.some (Jvm.ClassFile.FieldType.object "java/lang/String")), Jvm.Cond.code ({ cls := "java/util/Arrays", name := "copyOfRange", desc := "([BII)[B" } : Jvm.MethodName) jdk_65_method_132_code (3 : Nat) (Option.some (Jvm.ClassFile.FieldType.array Jvm.ClassFile.FieldType.byte)), Jvm.Cond.code ({ cls := "java/util/Arrays", name := "copyOfRangeByte", desc := "([BII)[B" } : Jvm.MethodName) jdk_65_method_133_code (5 : Nat) (Option.some (Jvm.ClassFile.FieldType.array Jvm.ClassFile.FieldType.byte)), Jvm.Cond.code ({ cls := "java/util/Arrays", name := "checkLength", desc := "(II)V" } : Jvm.MethodName) jdk_65_method_131_code (2 : Nat) (Option.none : Option Jvm.ClassFile.FieldType), Jvm.Cond.code ({ cls := "java/lang/String", name := "<init>", desc := "([BB)V" } : Jvm.MethodName) jdk_42_method_151_code (3 : Nat) (Option.none : Option Jvm.ClassFile.FieldType), Jvm.Cond.code ({ cls := "com/example/elsewhere/elsewhere/SubfieldWithoutSeparatorPinLaw", name := "prefixEq", desc := "(Ljava/lang/String;[CI)Z" } : Jvm.MethodName) method_5_code (3 : Nat) (Option.some Jvm.ClassFile.FieldType.boolean), Jvm.Cond.code ({ cls := "java/lang/StringUTF16", name := "toBytes", desc := "([CII)[B" } : Jvm.MethodName) jdk_52_method_14_code (5 : Nat) (Option.some (Jvm.ClassFile.FieldType.array Jvm.ClassFile.FieldType.byte)), Jvm.Cond.code ({ cls := "java/lang/StringUTF16", name := "newBytesFor", desc := "(I)[B" } : Jvm.MethodName) jdk_52_method_2_code (1 : Nat) (Option.some (Jvm.ClassFile.FieldType.array Jvm.ClassFile.FieldType.byte)), Jvm.Cond.code ({ cls := "java/lang/StringUTF16", name := "newBytesLength", desc := "(I)I" } : Jvm.MethodName) jdk_52_method_3_code (1 : Nat) (Option.some Jvm.ClassFile.FieldType.int), Jvm.Cond.code ({ cls := "java/lang/StringUTF16", name := "putChar", desc := "([BII)V" } : Jvm.MethodName) jdk_52_method_4_code (3 : Nat) (Option.none : Option Jvm.ClassFile.FieldType), Jvm.Cond.code ({ cls := "java/lang/StringUTF16", name := "getChar", desc := "([BI)C" } : Jvm.MethodName) jdk_52_method_5_code (2 : Nat) (Option.some Jvm.ClassFile.FieldType.char), Jvm.Cond.code ({ cls := "java/lang/StringUTF16", name := "charAt", desc := "([BI)C" } : Jvm.MethodName) jdk_52_method_83_code (2 : Nat) (Option.some Jvm.ClassFile.FieldType.char), Jvm.Cond.code ({ cls := "java/lang/StringUTF16", name := "checkIndex", desc := "(I[B)V" } : Jvm.MethodName) jdk_52_method_91_code (2 : Nat) (Option.none : Option Jvm.ClassFile.FieldType), Jvm.Cond.code ({ cls := "java/lang/StringUTF16", name := "length", desc := "([B)I" } : Jvm.MethodName) jdk_52_method_6_code (1 : Nat) (Option.some Jvm.ClassFile.FieldType.int), Jvm.Cond.code ({ cls := "java/lang/StringUTF16", name := "newString", desc := "([BII)Ljava/lang/String;" } : Jvm.MethodName) jdk_52_method_69_code (5 : Nat) (Option.some (Jvm.ClassFile.FieldType.object "java/lang/String")), Jvm.Cond.code ({ cls := "java/lang/StringUTF16", name := "compress", desc := "([BII)[B" } : Jvm.MethodName) jdk_52_method_17_code (6 : Nat) (Option.some (Jvm.ClassFile.FieldType.array Jvm.ClassFile.FieldType.byte)), Jvm.Cond.code ({ cls := "java/lang/StringUTF16", name := "compress", desc := "([BI[BII)I" } : Jvm.MethodName) jdk_52_method_22_code (7 : Nat) (Option.some Jvm.ClassFile.FieldType.int), Jvm.Cond.code ({ cls := "java/lang/StringUTF16", name := "checkBoundsOffCount", desc := "(II[B)V" } : Jvm.MethodName) jdk_52_method_94_code (3 : Nat) (Option.none : Option Jvm.ClassFile.FieldType), Jvm.Cond.code ({ cls := "java/lang/String", name := "checkBoundsOffCount", desc := "(III)I" } : Jvm.MethodName) jdk_42_method_157_code (3 : Nat) (Option.some Jvm.ClassFile.FieldType.int), Jvm.Cond.code ({ cls := "jdk/internal/util/Preconditions", name := "checkFromIndexSize", desc := "(IIILjava/util/function/BiFunction;)I" } : Jvm.MethodName) jdk_41_method_13_code (4 : Nat) (Option.some Jvm.ClassFile.FieldType.int)]
set_option maxRecDepth 65536 in
theorem codes_eq : words1.filter isCode = codes1 := rfl
theorem w_codes : ∀ c ∈ words1.filter isCode, c.before args0 about1 = true := by
  rw [codes_eq]
  intro c hc
  simp only [codes1, List.mem_cons, List.not_mem_nil, or_false] at hc
  rcases hc with rfl | rfl | rfl | rfl | rfl | rfl | rfl | rfl | rfl | rfl | rfl | rfl | rfl | rfl | rfl | rfl | rfl | rfl | rfl | rfl | rfl | rfl | rfl | rfl | rfl | rfl | rfl | rfl | rfl | rfl | rfl | rfl | rfl | rfl | rfl | rfl | rfl | rfl | rfl | rfl | rfl | rfl | rfl | rfl | rfl | rfl | rfl | rfl | rfl | rfl | rfl | rfl | rfl
  · exact w_c0
  · exact w_c1
  · exact w_c2
  · exact w_c3
  · exact w_c4
  · exact w_c5
  · exact w_c6
  · exact w_c7
  · exact w_c8
  · exact w_c9
  · exact w_c10
  · exact w_c11
  · exact w_c12
  · exact w_c13
  · exact w_c14
  · exact w_c15
  · exact w_c16
  · exact w_c17
  · exact w_c18
  · exact w_c19
  · exact w_c20
  · exact w_c21
  · exact w_c22
  · exact w_c23
  · exact w_c24
  · exact w_c25
  · exact w_c26
  · exact w_c27
  · exact w_c28
  · exact w_c29
  · exact w_c30
  · exact w_c31
  · exact w_c32
  · exact w_c33
  · exact w_c34
  · exact w_c35
  · exact w_c36
  · exact w_c37
  · exact w_c38
  · exact w_c39
  · exact w_c40
  · exact w_c41
  · exact w_c42
  · exact w_c43
  · exact w_c44
  · exact w_c45
  · exact w_c46
  · exact w_c47
  · exact w_c48
  · exact w_c49
  · exact w_c50
  · exact w_c51
  · exact w_c52
set_option maxRecDepth 65536 in
theorem w_t1 : (words1.take 24).all (fun c => isCode c || c.before args0 about1) = true := by decide +kernel
set_option maxRecDepth 65536 in
theorem w_t2 : ((words1.drop 24).take 24).all (fun c => isCode c || c.before args0 about1) = true := by decide +kernel
set_option maxRecDepth 65536 in
theorem w_t3 : (((words1.drop 24).drop 24).take 24).all (fun c => isCode c || c.before args0 about1) = true := by decide +kernel
set_option maxRecDepth 65536 in
theorem w_t4 : ((((words1.drop 24).drop 24).drop 24).take 24).all (fun c => isCode c || c.before args0 about1) = true := by decide +kernel
set_option maxRecDepth 65536 in
theorem w_t5 : (((((words1.drop 24).drop 24).drop 24).drop 24).take 24).all (fun c => isCode c || c.before args0 about1) = true := by decide +kernel
set_option maxRecDepth 65536 in
theorem w_t6 : ((((((words1.drop 24).drop 24).drop 24).drop 24).drop 24).take 24).all (fun c => isCode c || c.before args0 about1) = true := by decide +kernel
set_option maxRecDepth 65536 in
theorem w_t7 : (((((((words1.drop 24).drop 24).drop 24).drop 24).drop 24).drop 24).take 24).all (fun c => isCode c || c.before args0 about1) = true := by decide +kernel
set_option maxRecDepth 65536 in
theorem w_t8 : ((((((((words1.drop 24).drop 24).drop 24).drop 24).drop 24).drop 24).drop 24).take 24).all (fun c => isCode c || c.before args0 about1) = true := by decide +kernel
set_option maxRecDepth 65536 in
theorem w_t9 : (((((((((words1.drop 24).drop 24).drop 24).drop 24).drop 24).drop 24).drop 24).drop 24).take 24).all (fun c => isCode c || c.before args0 about1) = true := by decide +kernel
set_option maxRecDepth 65536 in
theorem w_t10 : (((((((((words1.drop 24).drop 24).drop 24).drop 24).drop 24).drop 24).drop 24).drop 24).drop 24).all (fun c => isCode c || c.before args0 about1) = true := by decide +kernel
theorem w_tables : (allAtoms (Jvm.Cond.code x code maxLocals ret :: tables_1)).before args0 about1 = true := by
  rw [allAtoms_all]
  show words1.all (fun c => c.before args0 about1) = true
  refine all_split ?_ w_codes
  rw [← List.take_append_drop 24 words1, List.all_append, w_t1, ← List.take_append_drop 24 (words1.drop 24), List.all_append, w_t2, ← List.take_append_drop 24 ((words1.drop 24).drop 24), List.all_append, w_t3, ← List.take_append_drop 24 (((words1.drop 24).drop 24).drop 24), List.all_append, w_t4, ← List.take_append_drop 24 ((((words1.drop 24).drop 24).drop 24).drop 24), List.all_append, w_t5, ← List.take_append_drop 24 (((((words1.drop 24).drop 24).drop 24).drop 24).drop 24), List.all_append, w_t6, ← List.take_append_drop 24 ((((((words1.drop 24).drop 24).drop 24).drop 24).drop 24).drop 24), List.all_append, w_t7, ← List.take_append_drop 24 (((((((words1.drop 24).drop 24).drop 24).drop 24).drop 24).drop 24).drop 24), List.all_append, w_t8, ← List.take_append_drop 24 ((((((((words1.drop 24).drop 24).drop 24).drop 24).drop 24).drop 24).drop 24).drop 24), List.all_append, w_t9, w_t10]
  rfl
set_option maxRecDepth 65536 in
theorem w_rest : rest_1_c.before args0 about1 = true := by decide +kernel
set_option maxRecDepth 65536 in
theorem w_case : (Jvm.Cond.and given_1 narrow_1).before args0 about1 = true := by decide +kernel
set_option maxRecDepth 65536 in
theorem w_consts : constsHeld consts_1 about1 := Jvm.Lit.constsHeldB_iff.mp (by decide +kernel)
theorem w_applies : (headSpec (Jvm.Cond.code x code maxLocals ret :: tables_1) room_1).applies x e0.platform about1 = true :=
  (Spec.applies_iff w_frames).mpr ⟨w_running, w_runnable, w_alone, w_named, w_hears, w_ripe, w_room, w_tables⟩
theorem atStart : AtStart classFile x code maxLocals ret World_1 tables_1 room_1 Calls_1 rest_1 Pre_1 launch0 p0 e0 about1 theMethod args0 below0 :=
  ⟨lists_1, trivial, launch0.admits_env _ _ _, launch0.least_env, fairChoices_fair.cas, fairChoices_fair.clock, w_frames, w_args, w_heap, w_applies, ⟨w_consts, trivial⟩, w_rest, w_case⟩
end start1
theorem witness_1 : WitnessClaimed_1 := ⟨start1.p0, start1.e0, start1.about1, start1.theMethod, start1.args0, start1.below0, start1.atStart⟩
end Jvm.Pilot.@@N@@
