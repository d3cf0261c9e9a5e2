import JvmDerived
import JvmDerived.Pilot.@@N@@Statement
import JvmDerived.Pilot.@@N@@Code
set_option linter.unusedVariables false
set_option linter.unusedSimpArgs false
namespace Jvm.Ow
open Sem ClassFile Op Lib Bundle Jvm.Stand Jvm.Free Jvm.LawKit Jvm.RoadKit
abbrev Po : Type := Option Value → Heap → List Addr → Prop
section Defs
variable (p : Program) (l : Launch) (e : Env) (R : Room) (s : State) (m : MethodId) (args : Array Value) (below : List Frame) (meth : Method) (c : Code) (Z : State) (EL : List (String × Nat)) (n0 : Nat) (own : String)
def SafeL (vm : Vm) (h : Heap) (S : List Addr) : Prop := ∀ x ∈ S, x < h.size ∧ Safe Z EL vm h x
def Don (Q : Po) (U : State) (o : Outcome) (U' : State) (rm : Room) : Prop :=
  ∃ v L S', o = .returned v ∧ (Q v U'.heap S' ∧ Fr n0 L ∧ Old Z n0 U'.heap ∧ SafeL Z EL U'.vm U'.heap S') ∧ CHr Z EL U.vm U.heap U'.vm U'.heap ∧ ReturnedEndW U o U' L rm.cells rm.slots
def Con (y : MethodName) (bytes : ByteArray) (maxL : Nat) (ret : Option FieldType) (ws : List Jvm.Cond) (rm : Room) (as' : Array Value) (S : List Addr) (h : Heap) (Q : Po) : Prop :=
  MetFree l y (head1 (Jvm.Cond.code y bytes maxL ret :: ws) rm) (fun a U => a = as' ∧ Z.Warmed39 U.vm ∧ U.heap = h ∧ CHv Z EL U.vm h ∧ SafeL Z EL U.vm h S) (fun _ _ _ _ _ => True) (fun _ U o U' => Don Z EL n0 Q U o U' rm)
def Sit (S : List Addr) (h : Heap) (k n : Nat) (T : State) : Prop :=
  ∃ locs vm0 k0 k' n', k' ≤ k ∧ n' ≤ n ∧ Stand p l e R (s.setVm vm0) m args below meth c T locs k' n' ∧ T.heap = h ∧ s.Since vm0 k0 ∧ k0 ≤ h.size ∧ Z.Warmed39 vm0 ∧ vm0.findClass own = some m.cls ∧ Fr n0 locs ∧ Old Z n0 h ∧ CHr Z EL s.vm s.heap vm0 h ∧ SafeL Z EL vm0 h S
def Fnl (Q : Po) (t : State) : Prop := ∃ s₂ o, Steps p.tables e below t s₂ ∧ s₂.status = .running ∧ Ended s₂ below o ∧ Don Z EL n0 Q s o s₂ R
def Go (Q : Po) (S : List Addr) (h : Heap) (k n : Nat) (pc : Nat) (Ls : Array Slot) (st : List Value) : Prop :=
  ∀ T, Sit p l e R s m args below meth c Z EL n0 own S h k n T → Fnl p e R s below Z EL n0 Q (T.setTop (mkF m pc Ls st))
def Bdy (a0 : Array Value) (bytes : ByteArray) (maxL : Nat) (ret : Option FieldType) (nm : String) : Prop :=
  p.tables.exec = Jvm.exec ∧ c.code = bytes ∧ c.maxLocals = maxL ∧ meth.sig.returnType = ret ∧ meth.name = nm ∧ meth.locks = false ∧ EW Z a0 EL ∧ (∀ w ∈ Bundle.stringAtoms, w.before a0 Z = true)
end Defs
section Rules
variable {p : Program} {l : Launch} {e : Env} {R : Room} {s : State} {m : MethodId} {args : Array Value} {below : List Frame} {meth : Method} {c : Code} {Z : State} {EL : List (String × Nat)} {n0 : Nat} {own : String} {a0 : Array Value} {bytes : ByteArray} {maxL : Nat} {ret : Option FieldType} {nm : String} {Q : Po} {S S' : List Addr} {h h' : Heap} {k n k' n' pc pc' : Nat} {Ls Ls' : Array Slot} {st st' rest : List Value}
theorem SafeL.nil {vm : Vm} : SafeL Z EL vm h [] := fun _ q => nomatch q
theorem SafeL.chr {vm vm1 : Vm} (A : CHr Z EL vm h vm1 h') (q : SafeL Z EL vm h S) : SafeL Z EL vm1 h' S := fun x hx => ⟨Nat.lt_of_lt_of_le (q x hx).1 A.2.1, A.safe (q x hx).1 (q x hx).2⟩
theorem SafeL.sub {vm : Vm} (q : SafeL Z EL vm h S) (hs : ∀ x ∈ S', x ∈ S) : SafeL Z EL vm h S' := fun x hx => q x (hs x hx)
theorem SafeL.app {vm : Vm} (q : SafeL Z EL vm h S) (q' : SafeL Z EL vm h S') : SafeL Z EL vm h (S ++ S') := fun x hx => (List.mem_append.mp hx).elim (q x) (q' x)
theorem SafeL.cons {vm : Vm} {a : Addr} (ha : a < h.size ∧ Safe Z EL vm h a) (q : SafeL Z EL vm h S) : SafeL Z EL vm h (a :: S) := fun x hx => (List.mem_cons.mp hx).elim (fun z => z ▸ ha) (q x)
theorem keepE (E : Ext h h') : Keep h h' [] := (Keep.refl h []).ext E
theorem nin0 {x : Nat} : x ∉ ([] : List Nat) := fun q => nomatch q
theorem ninS {x y : Nat} {L : List Nat} (q : x ≠ y) (r : x ∉ L) : x ∉ y :: L := by simp [q, r]
theorem allI0 {P : Int32 → Prop} : ∀ x ∈ ([] : List Int32), P x := fun _ q => nomatch q
theorem allI {P : Int32 → Prop} {y : Int32} {L : List Int32} (q : P y) (r : ∀ x ∈ L, P x) : ∀ x ∈ y :: L, P x := List.forall_mem_cons.mpr ⟨q, r⟩
theorem old_le (O : Old Z n0 h) : n0 ≤ h.size := O.1 ▸ O.2.1
theorem Go.mono (hk : k ≤ k') (hn : n ≤ n') (hs : ∀ x ∈ S', x ∈ S) (hr : Go p l e R s m args below meth c Z EL n0 own Q S' h k' n' pc Ls st) : Go p l e R s m args below meth c Z EL n0 own Q S h k n pc Ls st := by
  intro T ⟨locs, vm0, k0, k1, n1, q1, q2, X, eT, hS, hk0, hZ, hown, N, O, C, SL⟩
  exact hr T ⟨locs, vm0, k0, k1, n1, Nat.le_trans q1 hk, Nat.le_trans q2 hn, X, eT, hS, hk0, hZ, hown, N, O, C, SL.sub hs⟩
theorem Go.norm (hs : ∀ x ∈ S', x ∈ S) (hst : st = st') (hr : Go p l e R s m args below meth c Z EL n0 own Q S' h k n pc Ls st') : Go p l e R s m args below meth c Z EL n0 own Q S h k n pc Ls st := by
  subst hst
  exact Go.mono (Nat.le_refl _) (Nat.le_refl _) hs hr
theorem Go.nr (hr : Go p l e R s m args below meth c Z EL n0 own Q S' h k n pc Ls st') (hst : st = st' := by rfl) : Go p l e R s m args below meth c Z EL n0 own Q (S ++ S') h k n pc Ls st := Go.norm (fun _ q => List.mem_append_right _ q) hst hr
/-- in a walk the old heap is there -/
theorem Go.old (hr : Old Z n0 h → Go p l e R s m args below meth c Z EL n0 own Q S h k n pc Ls st) : Go p l e R s m args below meth c Z EL n0 own Q S h k n pc Ls st := by
  intro T A
  have A' := A
  obtain ⟨locs, vm0, k0, k1, n1, q1, q2, X, eT, hS, hk0, hZ, hown, N, O, C, SL⟩ := A'
  exact hr O T A
/-- what is safe is there -/
theorem Go.lts (hr : (∀ x ∈ S, x < h.size) → Go p l e R s m args below meth c Z EL n0 own Q S h k n pc Ls st) : Go p l e R s m args below meth c Z EL n0 own Q S h k n pc Ls st := by
  intro T A
  have A' := A
  obtain ⟨locs, vm0, k0, k1, n1, q1, q2, X, eT, hS, hk0, hZ, hown, N, O, C, SL⟩ := A'
  exact hr (fun x hx => (SL x hx).1) T A
theorem Con.enter {y : MethodName} {ws : List Jvm.Cond} {rm : Room} {as' : Array Value} (hpl : plainFor y = true) (hO : Old Z n0 h) (hEW : EW Z a0 EL) (hwS : ∀ w ∈ Bundle.stringAtoms, w.before a0 Z = true)
    (body : ∀ (p : Program) (e : Env) (s : State) (m : MethodId) (below : List Frame) (meth : Method) (c : Code), Bdy p meth c Z EL a0 bytes maxL ret y.name → Go p l e rm s m as' below meth c Z EL n0 y.cls Q S h 0 0 0 Ls [])
    (hef : ∀ m : MethodId, entryFrame m as' maxL = mkF m 0 Ls [] := by intro m; first | rfl | (simp [entryFrame, mkF, argsToLocals, Value.category]; done)) :
    Con l Z EL n0 y bytes maxL ret ws rm as' S h Q := by
  refine MetFree.of_bodySF hpl hisR ?_
  intro p e s m args below meth c s₁ Bd hml0 hP hK
  obtain ⟨rfl, hZ, rfl, hC, hS⟩ := hP
  have X0 : Stand p l e rm s m args below meth c s₁ [] 0 0 := Stand.of_body Bd
  have hown : s.vm.findClass y.cls = some m.cls := findClass_of_methodNamed Bd.named
  have hnm := (name_of_methodNamed Bd.named Bd.method).1
  have e0 : s₁.heap = s.heap := by rw [Bd.state]; rfl
  rw [hef m]
  exact body p e s m below meth c ⟨Bd.exec, Bd.bytes, hml0, Bd.returns, hnm, Bd.notSynchronized, hEW, hwS⟩ s₁ ⟨[], s.vm, s.heap.size, 0, 0, Nat.le_refl _, Nat.le_refl _, X0, e0, (State.WarmedH.refl s).since _, Nat.le_refl _, hZ, hown, Fr.nil _, hO, CHr.refl hC, hS⟩
theorem plain (hr : Go p l e R s m args below meth c Z EL n0 own Q S h k n pc' Ls' st')
    (stp : ∀ T, At T m c below → ∀ t, Steps p.tables e below (T.setTop (mkF m pc' Ls' st')) t → Steps p.tables e below (T.setTop (mkF m pc Ls st)) t) : Go p l e R s m args below meth c Z EL n0 own Q S h k n pc Ls st := by
  intro T A
  have A' := A
  obtain ⟨locs, vm0, k0, k1, n1, q1, q2, X, r⟩ := A'
  obtain ⟨s2, o, q, r2⟩ := hr T A
  exact ⟨s2, o, stp T X.here _ q, r2⟩
/-- a step that may warm the tables, the heap as it was -/
theorem warm (hr : Go p l e R s m args below meth c Z EL n0 own Q S h k n pc' Ls' st')
    (stp : ∀ T vm0 locs k1 n1, Stand p l e R (s.setVm vm0) m args below meth c T locs k1 n1 → T.heap = h → Z.Warmed39 (s.setVm vm0).vm → (s.setVm vm0).vm.findClass own = some m.cls → Old Z n0 h →
      ∃ T', Stand p l e R (s.setVm vm0) m args below meth c T' locs k1 n1 ∧ T'.heap = h ∧ ∀ t, Steps p.tables e below (T'.setTop (mkF m pc' Ls' st')) t → Steps p.tables e below (T.setTop (mkF m pc Ls st)) t) : Go p l e R s m args below meth c Z EL n0 own Q S h k n pc Ls st := by
  intro T ⟨locs, vm0, k0, k1, n1, q1, q2, X, eT, hS, hk0, hZ, hown, N, O, C, SL⟩
  obtain ⟨T', X', e', sp⟩ := stp T vm0 locs k1 n1 X eT hZ hown O
  obtain ⟨s2, o, q, r2⟩ := hr T' ⟨locs, vm0, k0, k1, n1, q1, q2, X', e', hS, hk0, hZ, hown, N, O, C, SL⟩
  exact ⟨s2, o, sp _ q, r2⟩
/-- a step that makes one cell -/
theorem made {dc dn : Nat} {nn : Nat} {P : Heap → Prop} (hk : k + 1 ≤ k') (hn : n + nn ≤ n')
    (stp : ∀ T vm0 locs k1 n1, k1 ≤ k → n1 ≤ n → Stand p l e R (s.setVm vm0) m args below meth c T locs k1 n1 → T.heap = h → Z.Warmed39 (s.setVm vm0).vm → (s.setVm vm0).vm.findClass own = some m.cls →
      ∃ T' h', Stand p l e R (s.setVm vm0) m args below meth c T' locs (k1 + 1) (n1 + nn) ∧ T'.heap = h' ∧ Ext h h' ∧ h.size < h'.size ∧ P h' ∧ ∀ t, Steps p.tables e below (T'.setTop (mkF m pc' Ls' st')) t → Steps p.tables e below (T.setTop (mkF m pc Ls st)) t)
    (hr : ∀ h', Ext h h' → P h' → n0 ≤ h.size → Go p l e R s m args below meth c Z EL n0 own Q (h.size :: S) h' k' n' pc' Ls' st') : Go p l e R s m args below meth c Z EL n0 own Q S h k n pc Ls st := by
  intro T ⟨locs, vm0, k0, k1, n1, q1, q2, X, eT, hS, hk0, hZ, hown, N, O, C, SL⟩
  obtain ⟨T', h', X', e', E, lt, hP, sp⟩ := stp T vm0 locs k1 n1 q1 q2 X eT hZ hown
  have A := CHr.ext (EL := EL) (vm := vm0) E C.1
  have sf : Safe Z EL vm0 h h.size := Safe.new (Nat.le_refl _)
  obtain ⟨s2, o, q, r2⟩ := hr h' E hP (old_le O) T' ⟨locs, vm0, k0, k1 + 1, n1 + nn, by omega, by omega, X', e', hS, Nat.le_trans hk0 E.1, hZ, hown, N, O.ext E, C.trans A, (SL.chr A).cons ⟨lt, sf.ext E C.1⟩⟩
  exact ⟨s2, o, sp _ q, r2⟩
/-- a step that writes one place of one cell -/
theorem wrote {a : Addr} {sl : Nat} {v : Value} (ha : n0 ≤ a) (hsafe : ∀ vm0, Z.Warmed39 vm0 → SafeL Z EL vm0 h S → Safe Z EL vm0 h a)
    (stp : ∀ T vm0 locs k1 n1, Stand p l e R (s.setVm vm0) m args below meth c T locs k1 n1 → T.heap = h → Z.Warmed39 (s.setVm vm0).vm → (s.setVm vm0).vm.findClass own = some m.cls →
      ∃ T' h', Stand p l e R (s.setVm vm0) m args below meth c T' (locs ++ [⟨a, sl⟩]) k1 n1 ∧ T'.heap = h' ∧ Wr h h' a sl v ∧ ∀ t, Steps p.tables e below (T'.setTop (mkF m pc' Ls' st')) t → Steps p.tables e below (T.setTop (mkF m pc Ls st)) t)
    (hr : ∀ h', Wr h h' a sl v → Go p l e R s m args below meth c Z EL n0 own Q S h' k n pc' Ls' st') : Go p l e R s m args below meth c Z EL n0 own Q S h k n pc Ls st := by
  intro T ⟨locs, vm0, k0, k1, n1, q1, q2, X, eT, hS, hk0, hZ, hown, N, O, C, SL⟩
  obtain ⟨T', h', X', e', W, sp⟩ := stp T vm0 locs k1 n1 X eT hZ hown
  have A := CHr.wr (EL := EL) (vm := vm0) W (hsafe vm0 hZ SL) C.1
  obtain ⟨s2, o, q, r2⟩ := hr h' W T' ⟨_, vm0, k0, k1, n1, q1, q2, X', e', hS, by rw [W.size]; exact hk0, hZ, hown, Fr.snoc X' N ha, O.wr W ha, C.trans A, SL.chr A⟩
  exact ⟨s2, o, sp _ q, r2⟩
/-- a callee by its contract -/
theorem Con.back {y : MethodName} {bytes' : ByteArray} {maxL' : Nat} {ret' : Option FieldType} {rm : Room} {as' : Array Value} {Q' : Po} {len W : Nat} {vm0 : Vm} (hM : Con l Z EL n0 y bytes' maxL' ret' [] rm as' S h Q')
    (hZ : Z.Warmed39 vm0) (wc : (Jvm.Cond.code y bytes' maxL' ret').before a0 Z = true) (wz : (Jvm.Cond.initialized y.cls).before a0 Z = true) (hf : rm.frames + 1 ≤ R.frames) (hl : W + (maxL' + 11) + rm.locals ≤ R.locals) (hEL : EW Z a0 EL) (H : CHv Z EL vm0 h) (hSL : SafeL Z EL vm0 h S) :
    BackS l R p e below (s.setVm vm0) args y len W (fun A a => a = as' ∧ A.U.heap = h ∧ A.cells + rm.cells ≤ R.cells ∧ A.slots + rm.slots ≤ R.slots)
      (fun A _ v B => ∃ L S', (Q' v B.U.heap S' ∧ Fr n0 L ∧ Old Z n0 B.U.heap ∧ SafeL Z EL B.U.vm B.U.heap S') ∧ B.locs = A.locs ++ L ∧ B.cells = A.cells + rm.cells ∧ B.slots = A.slots + rm.slots ∧ CHr Z EL vm0 h B.U.vm B.U.heap) := by
  have loc : ∀ {m : MethodId} {meth : Method} {c : Code} {A : Pt}, Stand p l e R (s.setVm vm0) m args below meth c A.U A.locs A.cells A.slots → Z.Warmed39 A.U.vm ∧ CHr Z EL vm0 h A.U.vm h := fun Y => ⟨wtrans (s := s.setVm vm0) hZ Y.warmed, CHv.at Y hZ hEL H⟩
  apply BackS.of_freeW (bytes := bytes') (maxL := maxL') (ret := ret') (E := fun _ U o U' L k n => ∃ v S', (o, k, n) = (.returned v, rm.cells, rm.slots) ∧ CHr Z EL U.vm U.heap U'.vm U'.heap ∧ Q' v U'.heap S' ∧ Fr n0 L ∧ Old Z n0 U'.heap ∧ SafeL Z EL U'.vm U'.heap S') hM hf hl
  · rintro m meth c A a Y ⟨-, -, g1, g2⟩
    have cd : (Jvm.Cond.code y bytes' maxL' ret').before a A.U = true := mv (loc Y).1 wc
    have ct : (Jvm.Cond.and (Jvm.Cond.code y bytes' maxL' ret') .tt).before a A.U = true := by rw [Cond.before_and, cd]; rfl
    exact ⟨ct, cd, mv (loc Y).1 wz, g1, g2⟩
  · rintro m meth c A a g mk Y ⟨g1, g2, -⟩
    exact ⟨g1, (loc Y).1, g2, (loc Y).2.1, hSL.chr (loc Y).2⟩
  · intros; trivial
  · rintro _ _ _ _ ⟨v, L, S', rfl, d, hC, hE⟩
    exact ⟨L, _, _, hE, v, S', rfl, hC, d⟩
  · rintro m meth c A a g mk v t L k n Y ⟨-, rfl, -⟩ - - ⟨v', S', o1, hC, d⟩
    cases o1
    exact ⟨L, S', d, rfl, rfl, rfl, (loc Y).2.trans hC⟩
abbrev NoH (y : MethodName) : Prop := y.cls ≠ "java/lang/invoke/MethodHandle" ∧ y.cls ≠ "java/lang/invoke/VarHandle"
/-- behind a call -/
theorem after {T : State} {vm0 : Vm} {k0 k1 n1 : Nat} {rm : Room} {Q' : Po} {v : Option Value} {P : Pt} {locs : List Loc} {t0 : State} (hS : s.Since vm0 k0) (hk0 : k0 ≤ h.size) (eT : T.heap = h) (q1 : k1 ≤ k) (q2 : n1 ≤ n) (hk : k + rm.cells ≤ k') (hn : n + rm.slots ≤ n')
    (hZ : Z.Warmed39 vm0) (hown : vm0.findClass own = some m.cls) (N : Fr n0 locs) (C : CHr Z EL s.vm s.heap vm0 h) (SL : SafeL Z EL vm0 h S)
    (X' : Stand p l e R ((s.setVm vm0).setVm P.U.vm) m args below meth c P.U P.locs P.cells P.slots) (h2 : (s.setVm vm0).Since P.U.vm P.U.heap.size) (hg : T.heap.size ≤ P.U.heap.size)
    (hpost : ∃ L S', (Q' v P.U.heap S' ∧ Fr n0 L ∧ Old Z n0 P.U.heap ∧ SafeL Z EL P.U.vm P.U.heap S') ∧ P.locs = locs ++ L ∧ P.cells = k1 + rm.cells ∧ P.slots = n1 + rm.slots ∧ CHr Z EL vm0 h P.U.vm P.U.heap)
    (hst : Steps p.tables e below t0 (P.U.setTop (mkF m pc' Ls (v.toList ++ rest))))
    (hr : ∀ v h' S', Q' v h' S' → h.size ≤ h'.size → Go p l e R s m args below meth c Z EL n0 own Q (S' ++ S) h' k' n' pc' Ls (v.toList ++ rest)) : Fnl p e R s below Z EL n0 Q t0 := by
  obtain ⟨L, S', ⟨hQ, N', O', SL'⟩, e1, e2, e3, C'⟩ := hpost
  obtain ⟨Y, hS2, hZ2, hown2⟩ := rebS hS (by rw [eT]; exact hk0) X' h2 hg hZ hown
  obtain ⟨s2, o, q, r2⟩ := hr v P.U.heap S' hQ C'.2.1 P.U ⟨P.locs, P.U.vm, P.U.heap.size, P.cells, P.slots, by omega, by omega, Y, rfl, hS2, Nat.le_refl _, hZ2, hown2, e1 ▸ N.app N', O', C.trans C', SL'.app (SL.chr C')⟩
  exact ⟨s2, o, hst.trans q, r2⟩
theorem iload (B : Bdy p meth c Z EL a0 bytes maxL ret nm) {j : Nat} {x : Int32} (hd : decode bytes pc = .ok (.iload j, 2)) (hr : Go p l e R s m args below meth c Z EL n0 own Q S h k n pc' Ls (.int x :: st)) (hp : pc' = pc + 2 := by rfl) (hl : Ls[j]? = some (.val (.int x)) := by rfl) : Go p l e R s m args below meth c Z EL n0 own Q S h k n pc Ls st := by
  subst hp
  exact plain hr fun T A t q => XS.iload A B.1 rfl (hb B.2.1 hd) hl q
theorem iloadN (B : Bdy p meth c Z EL a0 bytes maxL ret nm) {j : Fin 4} {x : Int32} (hd : decode bytes pc = .ok (.iload_n j, 1)) (hr : Go p l e R s m args below meth c Z EL n0 own Q S h k n pc' Ls (.int x :: st)) (hp : pc' = pc + 1 := by rfl) (hl : Ls[j.val]? = some (.val (.int x)) := by rfl) : Go p l e R s m args below meth c Z EL n0 own Q S h k n pc Ls st := by
  subst hp
  exact plain hr fun T A t q => XS.iloadN A B.1 rfl (hb B.2.1 hd) hl q
theorem aload (B : Bdy p meth c Z EL a0 bytes maxL ret nm) {j : Nat} {v : Value} (hd : decode bytes pc = .ok (.aload j, 2)) (hr : Go p l e R s m args below meth c Z EL n0 own Q S h k n pc' Ls (v :: st)) (hp : pc' = pc + 2 := by rfl) (hl : Ls[j]? = some (.val v) := by rfl) (hv : v.isRef = true := by rfl) : Go p l e R s m args below meth c Z EL n0 own Q S h k n pc Ls st := by
  subst hp
  exact plain hr fun T A t q => XS.aload A B.1 rfl (hb B.2.1 hd) hl hv q
theorem aloadN (B : Bdy p meth c Z EL a0 bytes maxL ret nm) {j : Fin 4} {v : Value} (hd : decode bytes pc = .ok (.aload_n j, 1)) (hr : Go p l e R s m args below meth c Z EL n0 own Q S h k n pc' Ls (v :: st)) (hp : pc' = pc + 1 := by rfl) (hl : Ls[j.val]? = some (.val v) := by rfl) (hv : v.isRef = true := by rfl) : Go p l e R s m args below meth c Z EL n0 own Q S h k n pc Ls st := by
  subst hp
  exact plain hr fun T A t q => XS.aloadN A B.1 rfl (hb B.2.1 hd) hl hv q
theorem istore (B : Bdy p meth c Z EL a0 bytes maxL ret nm) {j : Nat} {x : Int32} (hd : decode bytes pc = .ok (.istore j, 2)) (hr : Go p l e R s m args below meth c Z EL n0 own Q S h k n pc' Ls' st) (hp : pc' = pc + 2 := by rfl) (hl : storeLocals Ls j (.int x) = some Ls' := by rfl) : Go p l e R s m args below meth c Z EL n0 own Q S h k n pc Ls (.int x :: st) := by
  subst hp
  exact plain hr fun T A t q => XS.istore A B.1 rfl (hb B.2.1 hd) rfl hl q
theorem istoreN (B : Bdy p meth c Z EL a0 bytes maxL ret nm) {j : Fin 4} {x : Int32} (hd : decode bytes pc = .ok (.istore_n j, 1)) (hr : Go p l e R s m args below meth c Z EL n0 own Q S h k n pc' Ls' st) (hp : pc' = pc + 1 := by rfl) (hl : storeLocals Ls j.val (.int x) = some Ls' := by rfl) : Go p l e R s m args below meth c Z EL n0 own Q S h k n pc Ls (.int x :: st) := by
  subst hp
  exact plain hr fun T A t q => XS.istoreN A B.1 rfl (hb B.2.1 hd) rfl hl q
theorem astore (B : Bdy p meth c Z EL a0 bytes maxL ret nm) {j : Nat} {v : Value} (hd : decode bytes pc = .ok (.astore j, 2)) (hr : Go p l e R s m args below meth c Z EL n0 own Q S h k n pc' Ls' st) (hp : pc' = pc + 2 := by rfl) (hv : v.isRef = true := by rfl) (hl : storeLocals Ls j v = some Ls' := by rfl) : Go p l e R s m args below meth c Z EL n0 own Q S h k n pc Ls (v :: st) := by
  subst hp
  exact plain hr fun T A t q => XS.astore A B.1 rfl (hb B.2.1 hd) rfl hv hl q
theorem astoreN (B : Bdy p meth c Z EL a0 bytes maxL ret nm) {j : Fin 4} {v : Value} (hd : decode bytes pc = .ok (.astore_n j, 1)) (hr : Go p l e R s m args below meth c Z EL n0 own Q S h k n pc' Ls' st) (hp : pc' = pc + 1 := by rfl) (hv : v.isRef = true := by rfl) (hl : storeLocals Ls j.val v = some Ls' := by rfl) : Go p l e R s m args below meth c Z EL n0 own Q S h k n pc Ls (v :: st) := by
  subst hp
  exact plain hr fun T A t q => XS.astoreN A B.1 rfl (hb B.2.1 hd) rfl hv hl q
theorem iinc (B : Bdy p meth c Z EL a0 bytes maxL ret nm) {j : Nat} {cst : Int} {x y : Int32} (hd : decode bytes pc = .ok (.iinc j cst, 3)) (hr : Go p l e R s m args below meth c Z EL n0 own Q S h k n pc' Ls' st) (hp : pc' = pc + 3 := by rfl) (hl : Ls[j]? = some (.val (.int x)) := by rfl) (hy : y = x + Int32.ofInt cst := by first | rfl | decide) (hl' : storeLocals Ls j (.int y) = some Ls' := by rfl) : Go p l e R s m args below meth c Z EL n0 own Q S h k n pc Ls st := by
  subst hp
  exact plain hr fun T A t q => XS.iinc A B.1 rfl (hb B.2.1 hd) hl (hy ▸ hl') q
theorem iconst (B : Bdy p meth c Z EL a0 bytes maxL ret nm) {i : Int} {x : Int32} (hd : decode bytes pc = .ok (.iconst i, 1)) (hr : Go p l e R s m args below meth c Z EL n0 own Q S h k n pc' Ls (.int x :: st)) (hp : pc' = pc + 1 := by rfl) (hi : Int32.ofInt i = x := by first | rfl | decide) : Go p l e R s m args below meth c Z EL n0 own Q S h k n pc Ls st := by
  subst hp
  exact plain hr fun T A t q => XS.iconst A B.1 rfl (hb B.2.1 hd) (hi ▸ q)
theorem bipush (B : Bdy p meth c Z EL a0 bytes maxL ret nm) {i : Int} {x : Int32} (hd : decode bytes pc = .ok (.bipush i, 2)) (hr : Go p l e R s m args below meth c Z EL n0 own Q S h k n pc' Ls (.int x :: st)) (hp : pc' = pc + 2 := by rfl) (hi : (Int8.ofInt i).toInt32 = x := by first | rfl | decide) : Go p l e R s m args below meth c Z EL n0 own Q S h k n pc Ls st := by
  subst hp
  exact plain hr fun T A t q => XS.bipush A B.1 rfl (hb B.2.1 hd) (hi ▸ q)
theorem sipush (B : Bdy p meth c Z EL a0 bytes maxL ret nm) {i : Int} {x : Int32} (hd : decode bytes pc = .ok (.sipush i, 3)) (hr : Go p l e R s m args below meth c Z EL n0 own Q S h k n pc' Ls (.int x :: st)) (hp : pc' = pc + 3 := by rfl) (hi : (Int16.ofInt i).toInt32 = x := by first | rfl | decide) : Go p l e R s m args below meth c Z EL n0 own Q S h k n pc Ls st := by
  subst hp
  exact plain hr fun T A t q => XS.sipush A B.1 rfl (hb B.2.1 hd) (hi ▸ q)
theorem aconstNull (B : Bdy p meth c Z EL a0 bytes maxL ret nm)  (hd : decode bytes pc = .ok (.aconst_null, 1)) (hr : Go p l e R s m args below meth c Z EL n0 own Q S h k n pc' Ls (.null :: st)) (hp : pc' = pc + 1 := by rfl)  : Go p l e R s m args below meth c Z EL n0 own Q S h k n pc Ls st := by
  subst hp
  exact plain hr fun T A t q => XS.aconstNull A B.1 rfl (hb B.2.1 hd) q
theorem iadd (B : Bdy p meth c Z EL a0 bytes maxL ret nm) {x y z : Int32} (hd : decode bytes pc = .ok (.iadd, 1)) (hr : Go p l e R s m args below meth c Z EL n0 own Q S h k n pc' Ls (.int z :: st)) (hp : pc' = pc + 1 := by rfl) (hz : x + y = z := by first | rfl | decide) : Go p l e R s m args below meth c Z EL n0 own Q S h k n pc Ls (.int y :: .int x :: st) := by
  subst hp
  exact plain hr fun T A t q => XS.iadd A B.1 rfl (hb B.2.1 hd) rfl (hz ▸ q)
theorem isub (B : Bdy p meth c Z EL a0 bytes maxL ret nm) {x y z : Int32} (hd : decode bytes pc = .ok (.isub, 1)) (hr : Go p l e R s m args below meth c Z EL n0 own Q S h k n pc' Ls (.int z :: st)) (hp : pc' = pc + 1 := by rfl) (hz : x - y = z := by first | rfl | decide) : Go p l e R s m args below meth c Z EL n0 own Q S h k n pc Ls (.int y :: .int x :: st) := by
  subst hp
  exact plain hr fun T A t q => XS.isub A B.1 rfl (hb B.2.1 hd) rfl (hz ▸ q)
theorem iand (B : Bdy p meth c Z EL a0 bytes maxL ret nm) {x y z : Int32} (hd : decode bytes pc = .ok (.iand, 1)) (hr : Go p l e R s m args below meth c Z EL n0 own Q S h k n pc' Ls (.int z :: st)) (hp : pc' = pc + 1 := by rfl) (hz : x &&& y = z := by first | rfl | decide) : Go p l e R s m args below meth c Z EL n0 own Q S h k n pc Ls (.int y :: .int x :: st) := by
  subst hp
  exact plain hr fun T A t q => XS.iand A B.1 rfl (hb B.2.1 hd) rfl (hz ▸ q)
theorem ior (B : Bdy p meth c Z EL a0 bytes maxL ret nm) {x y z : Int32} (hd : decode bytes pc = .ok (.ior, 1)) (hr : Go p l e R s m args below meth c Z EL n0 own Q S h k n pc' Ls (.int z :: st)) (hp : pc' = pc + 1 := by rfl) (hz : x ||| y = z := by first | rfl | decide) : Go p l e R s m args below meth c Z EL n0 own Q S h k n pc Ls (.int y :: .int x :: st) := by
  subst hp
  exact plain hr fun T A t q => XT.ior A B.1 rfl (hb B.2.1 hd) rfl (hz ▸ q)
theorem ishl (B : Bdy p meth c Z EL a0 bytes maxL ret nm) {x y z : Int32} (hd : decode bytes pc = .ok (.ishl, 1)) (hr : Go p l e R s m args below meth c Z EL n0 own Q S h k n pc' Ls (.int z :: st)) (hp : pc' = pc + 1 := by rfl) (hz : x <<< (y &&& 31) = z := by first | rfl | decide) : Go p l e R s m args below meth c Z EL n0 own Q S h k n pc Ls (.int y :: .int x :: st) := by
  subst hp
  exact plain hr fun T A t q => XT.ishl A B.1 rfl (hb B.2.1 hd) rfl (hz ▸ q)
theorem ishr (B : Bdy p meth c Z EL a0 bytes maxL ret nm) {x y z : Int32} (hd : decode bytes pc = .ok (.ishr, 1)) (hr : Go p l e R s m args below meth c Z EL n0 own Q S h k n pc' Ls (.int z :: st)) (hp : pc' = pc + 1 := by rfl) (hz : x >>> (y &&& 31) = z := by first | rfl | decide) : Go p l e R s m args below meth c Z EL n0 own Q S h k n pc Ls (.int y :: .int x :: st) := by
  subst hp
  exact plain hr fun T A t q => XT.ishr A B.1 rfl (hb B.2.1 hd) rfl (hz ▸ q)
theorem iushr (B : Bdy p meth c Z EL a0 bytes maxL ret nm) {x y z : Int32} (hd : decode bytes pc = .ok (.iushr, 1)) (hr : Go p l e R s m args below meth c Z EL n0 own Q S h k n pc' Ls (.int z :: st)) (hp : pc' = pc + 1 := by rfl) (hz : Jvm.Free.XT.ushr x y = z := by first | rfl | decide) : Go p l e R s m args below meth c Z EL n0 own Q S h k n pc Ls (.int y :: .int x :: st) := by
  subst hp
  exact plain hr fun T A t q => XT.iushr A B.1 rfl (hb B.2.1 hd) rfl (hz ▸ q)
theorem i2b (B : Bdy p meth c Z EL a0 bytes maxL ret nm) {x z : Int32} (hd : decode bytes pc = .ok (.i2b, 1)) (hr : Go p l e R s m args below meth c Z EL n0 own Q S h k n pc' Ls (.int z :: st)) (hp : pc' = pc + 1 := by rfl) (hz : x.toInt8.toInt32 = z := by first | rfl | decide) : Go p l e R s m args below meth c Z EL n0 own Q S h k n pc Ls (.int x :: st) := by
  subst hp
  exact plain hr fun T A t q => XT.i2b A B.1 rfl (hb B.2.1 hd) rfl (hz ▸ q)
theorem i2c (B : Bdy p meth c Z EL a0 bytes maxL ret nm) {x z : Int32} (hd : decode bytes pc = .ok (.i2c, 1)) (hr : Go p l e R s m args below meth c Z EL n0 own Q S h k n pc' Ls (.int z :: st)) (hp : pc' = pc + 1 := by rfl) (hz : x.toUInt32.toUInt16.toUInt32.toInt32 = z := by first | rfl | decide) : Go p l e R s m args below meth c Z EL n0 own Q S h k n pc Ls (.int x :: st) := by
  subst hp
  exact plain hr fun T A t q => XT.i2c A B.1 rfl (hb B.2.1 hd) rfl (hz ▸ q)
theorem dup (B : Bdy p meth c Z EL a0 bytes maxL ret nm) {v : Value} (hd : decode bytes pc = .ok (.dup, 1)) (hr : Go p l e R s m args below meth c Z EL n0 own Q S h k n pc' Ls (v :: v :: st)) (hp : pc' = pc + 1 := by rfl) (hc : v.category = 1 := by rfl) : Go p l e R s m args below meth c Z EL n0 own Q S h k n pc Ls (v :: st) := by
  subst hp
  exact plain hr fun T A t q => XS.dup A B.1 rfl (hb B.2.1 hd) rfl hc q
theorem pop (B : Bdy p meth c Z EL a0 bytes maxL ret nm) {v : Value} (hd : decode bytes pc = .ok (.pop, 1)) (hr : Go p l e R s m args below meth c Z EL n0 own Q S h k n pc' Ls st) (hp : pc' = pc + 1 := by rfl) (hc : v.category = 1 := by rfl) : Go p l e R s m args below meth c Z EL n0 own Q S h k n pc Ls (v :: st) := by
  subst hp
  exact plain hr fun T A t q => XT.pop A B.1 rfl (hb B.2.1 hd) rfl hc q
theorem dupX1 (B : Bdy p meth c Z EL a0 bytes maxL ret nm) {v w : Value} (hd : decode bytes pc = .ok (.dup_x1, 1)) (hr : Go p l e R s m args below meth c Z EL n0 own Q S h k n pc' Ls (v :: w :: v :: st)) (hp : pc' = pc + 1 := by rfl) (hc : v.category = 1 := by rfl) (hc' : w.category = 1 := by rfl) : Go p l e R s m args below meth c Z EL n0 own Q S h k n pc Ls (v :: w :: st) := by
  subst hp
  exact plain hr fun T A t q => XT.dupX1 A B.1 rfl (hb B.2.1 hd) rfl hc hc' q
theorem goto (B : Bdy p meth c Z EL a0 bytes maxL ret nm) {o : Int} (hd : decode bytes pc = .ok (.goto o, 3)) (hr : Go p l e R s m args below meth c Z EL n0 own Q S h k n pc' Ls st) (ho : 0 ≤ (pc : Int) + o := by decide) (hp : ((pc : Int) + o).toNat = pc' := by decide) : Go p l e R s m args below meth c Z EL n0 own Q S h k n pc Ls st := plain hr fun T A t q => XS.goto A B.1 rfl (pc0 := pc) rfl (hb B.2.1 hd) ho hp q
theorem ifT (B : Bdy p meth c Z EL a0 bytes maxL ret nm) {cd : ClassFile.Cond} {x : Int32} {o : Int} (hd : decode bytes pc = .ok (.ifCond cd o, 3)) (hc : if_icmp.holds cd x 0 = true) (hr : Go p l e R s m args below meth c Z EL n0 own Q S h k n pc' Ls st) (ho : 0 ≤ (pc : Int) + o := by decide) (hp : ((pc : Int) + o).toNat = pc' := by decide) : Go p l e R s m args below meth c Z EL n0 own Q S h k n pc Ls (.int x :: st) := plain hr fun T A t q => XS.ifYes A B.1 rfl (pc0 := pc) rfl (hb B.2.1 hd) rfl ((if0 cd x).trans hc) ho hp q
theorem ifF (B : Bdy p meth c Z EL a0 bytes maxL ret nm) {cd : ClassFile.Cond} {x : Int32} {o : Int} (hd : decode bytes pc = .ok (.ifCond cd o, 3)) (hc : if_icmp.holds cd x 0 = false) (hr : Go p l e R s m args below meth c Z EL n0 own Q S h k n pc' Ls st) (hp : pc' = pc + 3 := by rfl) : Go p l e R s m args below meth c Z EL n0 own Q S h k n pc Ls (.int x :: st) := by
  subst hp
  exact plain hr fun T A t q => XS.ifNo A B.1 rfl (hb B.2.1 hd) rfl ((if0 cd x).trans hc) q
theorem icmpT (B : Bdy p meth c Z EL a0 bytes maxL ret nm) {cd : ClassFile.Cond} {x y : Int32} {o : Int} (hd : decode bytes pc = .ok (.if_icmp cd o, 3)) (hc : if_icmp.holds cd x y = true) (hr : Go p l e R s m args below meth c Z EL n0 own Q S h k n pc' Ls st) (ho : 0 ≤ (pc : Int) + o := by decide) (hp : ((pc : Int) + o).toNat = pc' := by decide) : Go p l e R s m args below meth c Z EL n0 own Q S h k n pc Ls (.int y :: .int x :: st) := plain hr fun T A t q => XS.icmpYes A B.1 rfl (pc0 := pc) rfl (hb B.2.1 hd) rfl hc ho hp q
theorem icmpF (B : Bdy p meth c Z EL a0 bytes maxL ret nm) {cd : ClassFile.Cond} {x y : Int32} {o : Int} (hd : decode bytes pc = .ok (.if_icmp cd o, 3)) (hc : if_icmp.holds cd x y = false) (hr : Go p l e R s m args below meth c Z EL n0 own Q S h k n pc' Ls st) (hp : pc' = pc + 3 := by rfl) : Go p l e R s m args below meth c Z EL n0 own Q S h k n pc Ls (.int y :: .int x :: st) := by
  subst hp
  exact plain hr fun T A t q => XS.icmpNo A B.1 rfl (hb B.2.1 hd) rfl hc q
theorem ifnullT (B : Bdy p meth c Z EL a0 bytes maxL ret nm) {o : Int} (hd : decode bytes pc = .ok (.ifnull o, 3)) (hr : Go p l e R s m args below meth c Z EL n0 own Q S h k n pc' Ls st) (ho : 0 ≤ (pc : Int) + o := by decide) (hp : ((pc : Int) + o).toNat = pc' := by decide) : Go p l e R s m args below meth c Z EL n0 own Q S h k n pc Ls (.null :: st) := plain hr fun T A t q => XS.ifnullYes A B.1 rfl (pc0 := pc) rfl (hb B.2.1 hd) rfl ho hp q
theorem ifnullF (B : Bdy p meth c Z EL a0 bytes maxL ret nm) {o : Int} {a : Addr} (hd : decode bytes pc = .ok (.ifnull o, 3)) (hr : Go p l e R s m args below meth c Z EL n0 own Q S h k n pc' Ls st) (hp : pc' = pc + 3 := by rfl) : Go p l e R s m args below meth c Z EL n0 own Q S h k n pc Ls (.ref a :: st) := by
  subst hp
  exact plain hr fun T A t q => XS.ifnullNo A B.1 rfl (hb B.2.1 hd) rfl q
theorem ifnonnullT (B : Bdy p meth c Z EL a0 bytes maxL ret nm) {o : Int} {a : Addr} (hd : decode bytes pc = .ok (.ifnonnull o, 3)) (hr : Go p l e R s m args below meth c Z EL n0 own Q S h k n pc' Ls st) (ho : 0 ≤ (pc : Int) + o := by decide) (hp : ((pc : Int) + o).toNat = pc' := by decide) : Go p l e R s m args below meth c Z EL n0 own Q S h k n pc Ls (.ref a :: st) := plain hr fun T A t q => XT.ifnonnullYes A B.1 rfl (pc0 := pc) rfl (hb B.2.1 hd) rfl ho hp q
theorem ifnonnullF (B : Bdy p meth c Z EL a0 bytes maxL ret nm) {o : Int} (hd : decode bytes pc = .ok (.ifnonnull o, 3)) (hr : Go p l e R s m args below meth c Z EL n0 own Q S h k n pc' Ls st) (hp : pc' = pc + 3 := by rfl) : Go p l e R s m args below meth c Z EL n0 own Q S h k n pc Ls (.null :: st) := by
  subst hp
  exact plain hr fun T A t q => XT.ifnonnullNo A B.1 rfl (hb B.2.1 hd) rfl q

theorem callStatic (B : Bdy p meth c Z EL a0 bytes maxL ret nm) {index : Nat} {y : MethodName} {bytes' : ByteArray} {maxL' : Nat} {ret' : Option FieldType} {rm : Room} {S1 : List Addr} {Q' : Po} {argsL : List Value} {ps : List FieldType} {rt : Option FieldType} {W : Nat} (hd : decode bytes pc = .ok (.invokestatic index, 3)) (w1 : (Jvm.Cond.methodLink own index y).before a0 Z = true) (w2 : (Jvm.Cond.static y).before a0 Z = true) (w3 : (Jvm.Cond.initialized y.cls).before a0 Z = true) (w4 : (Jvm.Cond.code y bytes' maxL' ret').before a0 Z = true) 
    (hM : Con l Z EL n0 y bytes' maxL' ret' [] rm argsL.toArray S1 h Q') (hpd : parseMethodDescriptor y.desc = some ⟨ps, rt⟩)
    (hr : ∀ v h' S', Q' v h' S' → h.size ≤ h'.size → Go p l e R s m args below meth c Z EL n0 own Q (S' ++ S) h' k' n' pc' Ls (v.toList ++ rest)) (hp : pc' = pc + 3 := by rfl) (hln : argsL.length = ps.length := by rfl) (hW : (rest.map fun v => v.category).sum ≤ W := by exact Nat.le_of_eq rfl) (hf : rm.frames + 1 ≤ R.frames := by decide) (hl : W + (maxL' + 11) + rm.locals ≤ R.locals := by decide) (hk : k + rm.cells ≤ k' := by decide) (hn : n + rm.slots ≤ n' := by decide) (hkR : k' ≤ R.cells := by decide) (hnR : n' ≤ R.slots := by decide) (hsub : ∀ x ∈ S1, x ∈ S := by simp) (hsz : Ls.size = maxL := by rfl) (hst : st = argsL.reverse ++ rest := by rfl) (hy : NoH y := by decide) : Go p l e R s m args below meth c Z EL n0 own Q S h k n pc Ls st := by
  subst hp hst
  intro T ⟨locs, vm0, k0, k1, n1, q1, q2, X, eT, hS, hk0, hZ, hown, N, O, C, SL⟩
  obtain ⟨v, vm1, P, hW1, X', h2, hg, hpost, hst⟩ := callSS X B.1 (y := y) hown (mvT (s := s.setVm vm0) hZ w1) (mvT (s := s.setVm vm0) hZ w2) (mvT (s := s.setVm vm0) hZ w3) (mvT (s := s.setVm vm0) hZ w4) hy (Con.back (W := W) hM hZ w4 w3 hf hl B.2.2.2.2.2.2.1 C.1 (SL.sub hsub)) (g := mkF m pc Ls (argsL.reverse ++ rest)) rfl (by rw [B.2.2.1]; exact hsz) (argsL := argsL) (rest := rest) (lenOf hpd hln) rfl (by show 2 * 0 + _ ≤ _; omega) (hb B.2.1 hd) (fun _ _ => ⟨rfl, eT, by show k1 + _ ≤ _; omega, by show n1 + _ ≤ _; omega⟩)
  exact after hS hk0 eT q1 q2 hk hn hZ hown N C SL X' h2 hg hpost hst hr
theorem callInit (B : Bdy p meth c Z EL a0 bytes maxL ret nm) {index : Nat} {y : MethodName} {bytes' : ByteArray} {maxL' : Nat} {rm : Room} {S1 : List Addr} {Q' : Po} {argsL : List Value} {ps : List FieldType} {rt : Option FieldType} {W : Nat} {a : Addr} (hd : decode bytes pc = .ok (.invokespecial index, 3)) (w1 : (Jvm.Cond.methodLink own index y).before a0 Z = true) (w2 : (Jvm.Cond.instanceMethod y).before a0 Z = true) (w3 : (Jvm.Cond.initialized y.cls).before a0 Z = true) (w4 : (Jvm.Cond.code y bytes' maxL' none).before a0 Z = true) 
    (hM : Con l Z EL n0 y bytes' maxL' none [] rm (.ref a :: argsL).toArray S1 h Q') (hpd : parseMethodDescriptor y.desc = some ⟨ps, rt⟩)
    (hr : ∀ v h' S', Q' v h' S' → h.size ≤ h'.size → Go p l e R s m args below meth c Z EL n0 own Q (S' ++ S) h' k' n' pc' Ls (v.toList ++ rest)) (hp : pc' = pc + 3 := by rfl) (hln : argsL.length = ps.length := by rfl) (hW : (rest.map fun v => v.category).sum ≤ W := by exact Nat.le_of_eq rfl) (hf : rm.frames + 1 ≤ R.frames := by decide) (hl : W + (maxL' + 11) + rm.locals ≤ R.locals := by decide) (hk : k + rm.cells ≤ k' := by decide) (hn : n + rm.slots ≤ n' := by decide) (hkR : k' ≤ R.cells := by decide) (hnR : n' ≤ R.slots := by decide) (hsub : ∀ x ∈ S1, x ∈ S := by simp) (hsz : Ls.size = maxL := by rfl) (hst : st = argsL.reverse ++ .ref a :: rest := by rfl) (hy : NoH y := by decide) (hy1 : y.name = "<init>" := by rfl) : Go p l e R s m args below meth c Z EL n0 own Q S h k n pc Ls st := by
  subst hp hst
  intro T ⟨locs, vm0, k0, k1, n1, q1, q2, X, eT, hS, hk0, hZ, hown, N, O, C, SL⟩
  obtain ⟨v, vm1, P, hW1, X', h2, hg, hpost, hst⟩ := X.specialBackS B.1 (y := y) hy1 hown (mvT (s := s.setVm vm0) hZ w1) (mvT (s := s.setVm vm0) hZ w2) (mvT (s := s.setVm vm0) hZ w4) hy (Con.back (W := W) hM hZ w4 w3 hf hl B.2.2.2.2.2.2.1 C.1 (SL.sub hsub)) (g := mkF m pc Ls (argsL.reverse ++ .ref a :: rest)) rfl (by rw [B.2.2.1]; exact hsz) (Steps.refl _) (a := a) (argsL := argsL) (rest := rest) (lenOf hpd hln) rfl (by show 2 * 0 + _ ≤ _; omega) (hb B.2.1 hd) (fun _ _ => ⟨rfl, eT, by show k1 + _ ≤ _; omega, by show n1 + _ ≤ _; omega⟩)
  exact after hS hk0 eT q1 q2 hk hn hZ hown N C SL X' h2 hg hpost hst hr
theorem callVirtual (B : Bdy p meth c Z EL a0 bytes maxL ret nm) {index : Nat} {y : MethodName} {bytes' : ByteArray} {maxL' : Nat} {ret' : Option FieldType} {rm : Room} {S1 : List Addr} {Q' : Po} {argsL : List Value} {ps : List FieldType} {rt : Option FieldType} {W : Nat} {a : Addr} {K K' : String} {z : MethodName} (hd : decode bytes pc = .ok (.invokevirtual index, 3)) (w1 : (Jvm.Cond.methodLink own index y).before a0 Z = true) (w2 : (Jvm.Cond.declares y).before a0 Z = true) (w0 : (Jvm.Cond.selects K' y y).before a0 Z = true) (w5 : (Jvm.Cond.selects K y z).before a0 Z = true) (w6 : (Jvm.Cond.instanceMethod z).before a0 Z = true) (w3 : (Jvm.Cond.initialized z.cls).before a0 Z = true) (w4 : (Jvm.Cond.code z bytes' maxL' ret').before a0 Z = true) (E : Exa Z h a K)
    (hM : Con l Z EL n0 z bytes' maxL' ret' [] rm (.ref a :: argsL).toArray S1 h Q') (hpd : parseMethodDescriptor y.desc = some ⟨ps, rt⟩)
    (hr : ∀ v h' S', Q' v h' S' → h.size ≤ h'.size → Go p l e R s m args below meth c Z EL n0 own Q (S' ++ S) h' k' n' pc' Ls (v.toList ++ rest)) (hp : pc' = pc + 3 := by rfl) (hln : argsL.length = ps.length := by rfl) (hW : (rest.map fun v => v.category).sum ≤ W := by exact Nat.le_of_eq rfl) (hf : rm.frames + 1 ≤ R.frames := by decide) (hl : W + (maxL' + 11) + rm.locals ≤ R.locals := by decide) (hk : k + rm.cells ≤ k' := by decide) (hn : n + rm.slots ≤ n' := by decide) (hkR : k' ≤ R.cells := by decide) (hnR : n' ≤ R.slots := by decide) (hsub : ∀ x ∈ S1, x ∈ S := by simp) (hsz : Ls.size = maxL := by rfl) (hst : st = argsL.reverse ++ .ref a :: rest := by rfl) (hy : NoH y := by decide) : Go p l e R s m args below meth c Z EL n0 own Q S h k n pc Ls st := by
  subst hp hst
  intro T ⟨locs, vm0, k0, k1, n1, q1, q2, X, eT, hS, hk0, hZ, hown, N, O, C, SL⟩
  obtain ⟨cq, kq, qa, qb, qc⟩ := isOf (s := s.setVm vm0) hZ eT E
  obtain ⟨v, vm1, P, hW1, X', h2, hg, hpost, hst⟩ := X.virtualBackS B.1 (y := y) (z := z) hown (mvT (s := s.setVm vm0) hZ w1) (mvT (s := s.setVm vm0) hZ w2) (notFace_of_selects (args := #[]) (mvT (s := s.setVm vm0) hZ w0)) (mvT (s := s.setVm vm0) hZ w5) (mvT (s := s.setVm vm0) hZ w6) hy (Con.back (W := W) hM hZ w4 w3 hf hl B.2.2.2.2.2.2.1 C.1 (SL.sub hsub)) qa qc (g := mkF m pc Ls (argsL.reverse ++ .ref a :: rest)) rfl (by rw [B.2.2.1]; exact hsz) (Steps.refl _) (argsL := argsL) (rest := rest) (lenOf hpd hln) rfl (by show 2 * 0 + _ ≤ _; omega) (hb B.2.1 hd) (fun _ _ => ⟨rfl, eT, by show k1 + _ ≤ _; omega, by show n1 + _ ≤ _; omega⟩)
  exact after hS hk0 eT q1 q2 hk hn hZ hown N C SL X' h2 hg hpost hst hr
theorem selPriv {s : State} {args : Array Value} {y : MethodName} {nI : Nat} (hi : (Jvm.Cond.instanceMethod y).before args s = true) (hp : (Jvm.Cond.privateMethod y).before args s = true) (hn : (Jvm.Cond.instantiable y.cls nI).before args s = true) (hy : NoH y) : (Jvm.Cond.selects y.cls y y).before args s = true := by
  obtain ⟨mk, methM, hnamed, hmethM, hstM, habM⟩ := Cond.instanceMethod_spec hi
  obtain ⟨c, k, hc, hk, -, hfl, -⟩ := Cond.instantiable_spec hn
  have hcm : s.vm.findClass y.cls = some mk.cls := findClass_of_methodNamed hnamed
  cases hc.symm.trans hcm
  have hf := State.methodFound?_of_named hnamed hy
  have hsel := selectMethod_private (p := {}) (c := mk.cls) hmethM (Cond.privateMethod_at hp mk methM hnamed hmethM)
  simp only [Bool.or_eq_false_iff] at hfl
  simp [Cond.before, Cond.holds, Cond.value, hcm, hf, hnamed, hsel, hk, hfl.1]
theorem mvPri {Z s : State} {a0 args : Array Value} {y : MethodName} (hZ : Z.Warmed39 s.vm) (w : (Jvm.Cond.privateMethod y).before a0 Z = true) : (Jvm.Cond.privateMethod y).before args s = true := by
  have h1 : (Jvm.Cond.privateMethod y).before a0 (Z.setVm s.vm) = true := Cond.rides hZ rfl w
  exact h1
theorem callPrivate (B : Bdy p meth c Z EL a0 bytes maxL ret nm) {index : Nat} {y : MethodName} {bytes' : ByteArray} {maxL' : Nat} {ret' : Option FieldType} {rm : Room} {S1 : List Addr} {Q' : Po} {argsL : List Value} {ps : List FieldType} {rt : Option FieldType} {W : Nat} {a : Addr} {K : String} {nI : Nat} (hd : decode bytes pc = .ok (.invokevirtual index, 3)) (w1 : (Jvm.Cond.methodLink own index y).before a0 Z = true) (w6 : (Jvm.Cond.instanceMethod y).before a0 Z = true) (w5 : (Jvm.Cond.privateMethod y).before a0 Z = true) (w7 : (Jvm.Cond.instantiable y.cls nI).before a0 Z = true) (w3 : (Jvm.Cond.initialized y.cls).before a0 Z = true) (w4 : (Jvm.Cond.code y bytes' maxL' ret').before a0 Z = true) (E : Exa Z h a K)
    (hM : Con l Z EL n0 y bytes' maxL' ret' [] rm (.ref a :: argsL).toArray S1 h Q') (hpd : parseMethodDescriptor y.desc = some ⟨ps, rt⟩)
    (hr : ∀ v h' S', Q' v h' S' → h.size ≤ h'.size → Go p l e R s m args below meth c Z EL n0 own Q (S' ++ S) h' k' n' pc' Ls (v.toList ++ rest)) (hp : pc' = pc + 3 := by rfl) (hln : argsL.length = ps.length := by rfl) (hW : (rest.map fun v => v.category).sum ≤ W := by exact Nat.le_of_eq rfl) (hf : rm.frames + 1 ≤ R.frames := by decide) (hl : W + (maxL' + 11) + rm.locals ≤ R.locals := by decide) (hk : k + rm.cells ≤ k' := by decide) (hn : n + rm.slots ≤ n' := by decide) (hkR : k' ≤ R.cells := by decide) (hnR : n' ≤ R.slots := by decide) (hsub : ∀ x ∈ S1, x ∈ S := by simp) (hsz : Ls.size = maxL := by rfl) (hst : st = argsL.reverse ++ .ref a :: rest := by rfl) (hy : NoH y := by decide) : Go p l e R s m args below meth c Z EL n0 own Q S h k n pc Ls st := by
  subst hp hst
  intro T ⟨locs, vm0, k0, k1, n1, q1, q2, X, eT, hS, hk0, hZ, hown, N, O, C, SL⟩
  obtain ⟨cq, kq, qa, qb, cellB, hcell, hcls, hstat⟩ := isOf (s := s.setVm vm0) hZ eT E
  obtain ⟨v, vm1, P, hW1, X', h2, hg, hpost, hst⟩ := X.privateBackS B.1 (y := y) hown (mvT (s := s.setVm vm0) hZ w1) (mvT (s := s.setVm vm0) hZ w6) (mvT (s := s.setVm vm0) hZ (selPriv w6 w5 w7 hy)) (Cond.privateMethod_at (args := a0) (mvPri (s := s.setVm vm0) hZ w5)) (mvT (s := s.setVm vm0) hZ w4) hy (Con.back (W := W) hM hZ w4 w3 hf hl B.2.2.2.2.2.2.1 C.1 (SL.sub hsub)) (g := mkF m pc Ls (argsL.reverse ++ .ref a :: rest)) rfl (by rw [B.2.2.1]; exact hsz) (Steps.refl _) hcell (fun q e => by rw [e] at hstat; cases hstat) (argsL := argsL) (rest := rest) (lenOf hpd hln) rfl (by show 2 * 0 + _ ≤ _; omega) (hb B.2.1 hd) (fun _ _ => ⟨rfl, eT, by show k1 + _ ≤ _; omega, by show n1 + _ ≤ _; omega⟩)
  exact after hS hk0 eT q1 q2 hk hn hZ hown N C SL X' h2 hg hpost hst hr
theorem newObj (B : Bdy p meth c Z EL a0 bytes maxL ret nm) {index nn : Nat} {K : String} (hd : decode bytes pc = .ok (.new index, 3)) (w : (Jvm.Cond.classLink own index K).before a0 Z = true) (wi : (Jvm.Cond.instantiable K nn).before a0 Z = true) (wz : (Jvm.Cond.initialized K).before a0 Z = true) 
    (hr : ∀ (h' : Heap) (a : Nat), a = h.size → n0 ≤ a → Keep h h' [] → Exa Z h' a K → (∀ {O f d : String} {ty : FieldType}, Laid Z a0 K O f d → parseFieldDescriptor d = some ty → Fld Z h' a O f d (defaultValue ty)) → Go p l e R s m args below meth c Z EL n0 own Q (a :: S) h' k' n' pc' Ls (.ref a :: st)) (hp : pc' = pc + 3 := by rfl) (hk : k + 1 ≤ k' := by decide) (hn : n + nn ≤ n' := by decide) (hkR : k' ≤ R.cells := by decide) (hnR : n' ≤ R.slots := by decide) : Go p l e R s m args below meth c Z EL n0 own Q S h k n pc Ls st := by
  subst hp
  refine made (dc := 0) (dn := 0) (nn := nn) (P := fun h' => Exa Z h' h.size K ∧ ∀ (O f d : String) (ty : FieldType), Laid Z a0 K O f d → parseFieldDescriptor d = some ty → Fld Z h' h.size O f d (defaultValue ty)) hk hn ?_ (fun h' E P q => hr h' h.size rfl q (keepE E) P.1 (fun {O f d ty} a b => P.2 O f d ty a b))
  intro T vm0 locs k1 n1 q1 q2 X eT hZ hown
  obtain ⟨T', h', X', e', E, A, D, -, st⟩ := newO X B.1 hZ hown w wi wz eT (g := mkF m pc Ls st) rfl (hb B.2.1 hd) (by omega) (by omega)
  exact ⟨T', h', X', e', E, A.lt, ⟨A, fun O f d ty a b => D a b⟩, st⟩
theorem newArr (B : Bdy p meth c Z EL a0 bytes maxL ret nm) {aty : ArrayType} {z : Int32} {cap : Nat} (hd : decode bytes pc = .ok (.newarray aty, 2)) (w : (Jvm.Cond.arrayClass (newarray.typeOf aty)).before a0 Z = true) (hz : ¬ z < 0) (hcap : z.toNatClampNeg ≤ cap) 
    (hr : ∀ (h' : Heap) (a : Nat) (cA : ClassId), a = h.size → n0 ≤ a → Keep h h' [] → Arv Z h' a cA (newarray.typeOf aty) z [] (defaultValue (newarray.typeOf aty)) → Go p l e R s m args below meth c Z EL n0 own Q (a :: S) h' k' n' pc' Ls (.ref a :: rest)) (hp : pc' = pc + 2 := by rfl) (hk : k + 1 ≤ k' := by decide) (hn : n + cap ≤ n' := by decide) (hkR : k' ≤ R.cells := by decide) (hnR : n' ≤ R.slots := by decide) (hcb : cap * 8 ≤ 536870912 := by decide) : Go p l e R s m args below meth c Z EL n0 own Q S h k n pc Ls (.int z :: rest) := by
  subst hp
  refine made (dc := 0) (dn := 0) (nn := cap) (P := fun h' => ∃ cA, Arr Z h' h.size (newA cA (newarray.typeOf aty) z) (newarray.typeOf aty)) hk hn ?_ (fun h' E P q => P.elim fun cA A => hr h' h.size cA rfl q (keepE E) (Arv.new A hz))
  intro T vm0 locs k1 n1 q1 q2 X eT hZ hown
  obtain ⟨T', h', cA, X', e', E, A, st⟩ := newP X B.1 hZ w eT (g := mkF m pc Ls (.int z :: rest)) rfl (hb B.2.1 hd) (n := z) rfl hz hcap hcb (by omega) (by omega)
  exact ⟨T', h', X', e', E, A.lt, ⟨cA, A⟩, st⟩
theorem getfield (B : Bdy p meth c Z EL a0 bytes maxL ret nm) {index : Nat} {R0 O f d : String} {a : Addr} {v : Value} (hd : decode bytes pc = .ok (.getfield index, 3)) (w : (Jvm.Cond.fieldLink own index R0 f d).before a0 Z = true) (via : Via Z R0 O f d) (F : Fld Z h a O f d v) (hr : Go p l e R s m args below meth c Z EL n0 own Q S h k n pc' Ls (v :: rest)) (hp : pc' = pc + 3 := by rfl) : Go p l e R s m args below meth c Z EL n0 own Q S h k n pc Ls (.ref a :: rest) := by
  subst hp
  exact warm hr fun T vm0 locs k1 n1 X eT hZ hown _ => getF X B.1 hZ hown (host := "") (Or.inl w) via eT F (g := mkF m pc Ls (.ref a :: rest)) rfl rfl (hb B.2.1 hd)
theorem getstatic (B : Bdy p meth c Z EL a0 bytes maxL ret nm) {index : Nat} {R0 O f d : String} {v : Value} (hd : decode bytes pc = .ok (.getstatic index, 3)) (w : (Jvm.Cond.fieldLink own index R0 f d).before a0 Z = true) (via : Via Z R0 O f d) (F : Sta Z Z.heap O f d v) (hr : Go p l e R s m args below meth c Z EL n0 own Q S h k n pc' Ls (v :: st)) (hp : pc' = pc + 3 := by rfl) : Go p l e R s m args below meth c Z EL n0 own Q S h k n pc Ls st := by
  subst hp
  exact warm hr fun T vm0 locs k1 n1 X eT hZ hown O => getS X B.1 hZ hown (host := "") w via eT (F.ext O.2) (g := mkF m pc Ls st) rfl (hb B.2.1 hd)
theorem putfield (B : Bdy p meth c Z EL a0 bytes maxL ret nm) {index kk : Nat} {R0 O f d K : String} {ty : FieldType} {a : Addr} {v old : Value} (hd : decode bytes pc = .ok (.putfield index, 3)) (w : (Jvm.Cond.fieldLink own index R0 f d).before a0 Z = true) (via : Via Z R0 O f d) (F : Fld Z h a O f d old) (E : Exa Z h a K) (L : (Jvm.Cond.lays K O f d).before a0 Z = true ∨ ((Jvm.Cond.laysFinal K O f d).before a0 Z = true ∧ own = O ∧ nm = "<init>")) (wi : (Jvm.Cond.instantiable K kk).before a0 Z = true)
    (hsafe : a ∈ S ∨ (K ≠ "java/lang/String" ∧ K ≠ "[B")) (hr : ∀ h', Wr h h' a (RoadKit.slotOf Z O f d) v → Go p l e R s m args below meth c Z EL n0 own Q S h' k n pc' Ls rest) (hp : pc' = pc + 3 := by rfl) (hty : parseFieldDescriptor d = some ty := by decide) (hnn : narrow ty v = v := by rfl) (hfit : fits ty v = true := by first | rfl | decide) (ha : n0 ≤ a := by omega) : Go p l e R s m args below meth c Z EL n0 own Q S h k n pc Ls (v :: .ref a :: rest) := by
  subst hp
  exact wrote ha (fun vm0 hZ SL => hsafe.elim (fun q => (SL a q).2) (fun q => Safe.exa hZ.alike E q.1 q.2)) (fun T vm0 locs k1 n1 X eT hZ hown => putF X B.1 hZ hown (host := "") (Or.inl w) via eT F E (L.imp id fun ⟨u, v, w⟩ => ⟨u, v, B.2.2.2.2.1.trans w⟩) wi hty hnn hfit (g := mkF m pc Ls (v :: .ref a :: rest)) rfl rfl (hb B.2.1 hd)) hr
theorem castore (B : Bdy p meth c Z EL a0 bytes maxL ret nm) {a : Addr} {kc : ClassId} {z j x : Int32} {vs : List Value} {dv : Value} {i : Nat} (hd : decode bytes pc = .ok (.castore, 1)) (A : Arv Z h a kc .char z vs dv) (hj : ¬ j < 0 ∧ j < z) 
    (hr : ∀ h', Keep h h' [a] → Arv Z h' a kc .char z (vs.set i (.int (nar .char x))) dv → Go p l e R s m args below meth c Z EL n0 own Q S h' k n pc' Ls rest) (hp : pc' = pc + 1 := by rfl) (ha : n0 ≤ a := by omega) (hlt : i < vs.length := by simp) (hi : j.toNatClampNeg = i := by decide) : Go p l e R s m args below meth c Z EL n0 own Q S h k n pc Ls (.int x :: .int j :: .ref a :: rest) := by
  subst hp
  obtain ⟨cl, A1, A2, A3, A4, A5, A6⟩ := A
  exact wrote ha (fun vm0 hZ SL => Safe.arr hZ.alike A1 (by decide)) (fun T vm0 locs k1 n1 X eT hZ hown => stC X B.1 hZ eT A1 (inb_of A3 hj) (g := mkF m pc Ls (.int x :: .int j :: .ref a :: rest)) rfl rfl (hb B.2.1 hd)) (fun h' W => hr h' (Keep.of_wr W) (Arv.set A1 A2 A3 A4 A5 A6 (fits_nar_char x) W i hi hlt))
theorem bastore (B : Bdy p meth c Z EL a0 bytes maxL ret nm) {a : Addr} {kc : ClassId} {z j x : Int32} {vs : List Value} {dv : Value} {i : Nat} (hd : decode bytes pc = .ok (.bastore, 1)) (A : Arv Z h a kc .byte z vs dv) (hj : ¬ j < 0 ∧ j < z) (hsafe : a ∈ S)
    (hr : ∀ h', Keep h h' [a] → Arv Z h' a kc .byte z (vs.set i (.int (nar .byte x))) dv → Go p l e R s m args below meth c Z EL n0 own Q S h' k n pc' Ls rest) (hp : pc' = pc + 1 := by rfl) (ha : n0 ≤ a := by omega) (hlt : i < vs.length := by simp) (hi : j.toNatClampNeg = i := by decide) : Go p l e R s m args below meth c Z EL n0 own Q S h k n pc Ls (.int x :: .int j :: .ref a :: rest) := by
  subst hp
  obtain ⟨cl, A1, A2, A3, A4, A5, A6⟩ := A
  exact wrote ha (fun vm0 hZ SL => (SL a hsafe).2) (fun T vm0 locs k1 n1 X eT hZ hown => stB X B.1 hZ eT A1 (inb_of A3 hj) (g := mkF m pc Ls (.int x :: .int j :: .ref a :: rest)) rfl rfl (hb B.2.1 hd)) (fun h' W => hr h' (Keep.of_wr W) (Arv.set A1 A2 A3 A4 A5 A6 (fits_nar_byte x) W i hi hlt))
theorem arrlen (B : Bdy p meth c Z EL a0 bytes maxL ret nm) {a : Addr} {kc : ClassId} {ty : FieldType} {z : Int32} {vs : List Value} {dv : Value} (hd : decode bytes pc = .ok (.arraylength, 1)) (A : Arv Z h a kc ty z vs dv) (hr : Go p l e R s m args below meth c Z EL n0 own Q S h k n pc' Ls (.int z :: rest)) (hp : pc' = pc + 1 := by rfl) : Go p l e R s m args below meth c Z EL n0 own Q S h k n pc Ls (.ref a :: rest) := by
  subst hp
  obtain ⟨cl, A1, A2, A3, A4, A5, A6⟩ := A
  exact warm hr fun T vm0 locs k1 n1 X eT hZ hown _ => ⟨T, X, eT, fun t q => X.arraylength B.1 (by rw [eT]; exact A1.1) (State.isArrayOf_alike hZ.alike A1.2.1) (g := mkF m pc Ls (.ref a :: rest)) rfl rfl (hb B.2.1 hd) t (by rw [len_of A3 A4]; exact q)⟩
theorem caload (B : Bdy p meth c Z EL a0 bytes maxL ret nm) {a : Addr} {kc : ClassId} {z j : Int32} {vs : List Value} {dv v : Value} (hd : decode bytes pc = .ok (.caload, 1)) (A : Arv Z h a kc .char z vs dv) (hj : ¬ j < 0 ∧ j < z) (hv : vs.getD j.toNatClampNeg dv = v) (hr : Go p l e R s m args below meth c Z EL n0 own Q S h k n pc' Ls (v :: rest)) (hp : pc' = pc + 1 := by rfl) : Go p l e R s m args below meth c Z EL n0 own Q S h k n pc Ls (.int j :: .ref a :: rest) := by
  subst hp
  obtain ⟨cl, A1, A2, A3, A4, A5, A6⟩ := A
  exact warm hr fun T vm0 locs k1 n1 X eT hZ hown _ => ⟨T, X, eT, fun t q => X.caload B.1 (by rw [eT]; exact A1.1) (State.isArrayOf_alike hZ.alike A1.2.1) A1.2.2 (inb_of A3 hj) (Has.at A5 (inb_of A3 hj) hv) (g := mkF m pc Ls (.int j :: .ref a :: rest)) rfl rfl (hb B.2.1 hd) t q⟩
theorem baload (B : Bdy p meth c Z EL a0 bytes maxL ret nm) {a : Addr} {kc : ClassId} {z j : Int32} {vs : List Value} {dv v : Value} (hd : decode bytes pc = .ok (.baload, 1)) (A : Arv Z h a kc .byte z vs dv) (hj : ¬ j < 0 ∧ j < z) (hv : vs.getD j.toNatClampNeg dv = v) (hr : Go p l e R s m args below meth c Z EL n0 own Q S h k n pc' Ls (v :: rest)) (hp : pc' = pc + 1 := by rfl) : Go p l e R s m args below meth c Z EL n0 own Q S h k n pc Ls (.int j :: .ref a :: rest) := by
  subst hp
  obtain ⟨cl, A1, A2, A3, A4, A5, A6⟩ := A
  exact warm hr fun T vm0 locs k1 n1 X eT hZ hown _ => ⟨T, X, eT, fun t q => X.baloadBytes B.1 (by rw [eT]; exact A1.1) (State.isArrayOf_alike hZ.alike A1.2.1) A1.2.2 (inb_of A3 hj) (Has.at A5 (inb_of A3 hj) hv) (g := mkF m pc Ls (.int j :: .ref a :: rest)) rfl rfl (hb B.2.1 hd) t q⟩
theorem objInit (B : Bdy p meth c Z EL a0 bytes maxL ret nm) {index W : Nat} {a : Addr} (hd : decode bytes pc = .ok (.invokespecial index, 3)) (w1 : (Jvm.Cond.methodLink own index Lib.objectInit).before a0 Z = true) (w2 : (Jvm.Cond.instanceMethod Lib.objectInit).before a0 Z = true) (w3 : (Jvm.Cond.code Lib.objectInit ⟨#[0xb1]⟩ 1 none).before a0 Z = true) (hr : Go p l e R s m args below meth c Z EL n0 own Q S h k n pc' Ls rest) (hp : pc' = pc + 3 := by rfl) (hsz : Ls.size = maxL := by rfl) (hW : (rest.map fun v => v.category).sum ≤ W := by exact Nat.le_of_eq rfl) (hf : 1 ≤ R.frames := by decide) (hl : W + 12 ≤ R.locals := by decide) : Go p l e R s m args below meth c Z EL n0 own Q S h k n pc Ls (.ref a :: rest) := by
  subst hp
  exact warm hr fun T vm0 locs k1 n1 X eT hZ hown _ => initO X B.1 hZ hown w1 w2 w3 eT (g := mkF m pc Ls (.ref a :: rest)) rfl (by rw [B.2.2.1]; exact hsz) rfl (hb B.2.1 hd) hf (W := W) (by show 2 * 0 + _ ≤ _; omega) hl
/-- System.arraycopy over bytes -/
theorem acopy (B : Bdy p meth c Z EL a0 bytes maxL ret nm) {index W : Nat} {a b : Addr} {ka kb : ClassId} {z z' sp dp nn : Int32} {vs vd us : List Value} {dv dd : Value} (hd : decode bytes pc = .ok (.invokestatic index, 3)) (w1 : (Jvm.Cond.methodLink own index Jvm.Stand.acN).before a0 Z = true) (w2 : (Jvm.Cond.native Jvm.Stand.acN).before a0 Z = true) (w3 : (Jvm.Cond.static Jvm.Stand.acN).before a0 Z = true) (w4 : (Jvm.Cond.initialized "java/lang/System").before a0 Z = true)
    (A : Arv Z h a ka .byte z vs dv) (D : Arv Z h b kb .byte z' vd dd) (hsafe : b ∈ S) (hr : ∀ h', Keep h h' [b] → Arv Z h' b kb .byte z' us dd → Go p l e R s m args below meth c Z EL n0 own Q S h' k n pc' Ls rest) (hp : pc' = pc + 3 := by rfl) (hsz : Ls.size = maxL := by rfl) (ha : n0 ≤ b := by omega) (h1 : ¬ sp < 0 := by decide) (h2 : ¬ dp < 0 := by decide) (h3 : ¬ nn < 0 := by decide) (h4 : sp.toNatClampNeg + nn.toNatClampNeg ≤ z.toNatClampNeg := by decide) (h5 : dp.toNatClampNeg + nn.toNatClampNeg ≤ z'.toNatClampNeg := by decide) (hl : dp.toNatClampNeg + nn.toNatClampNeg ≤ vd.length := by decide)
    (hus : vd.take dp.toNatClampNeg ++ ((List.range nn.toNatClampNeg).map fun i => vs.getD (sp.toNatClampNeg + i) dv) ++ vd.drop (dp.toNatClampNeg + nn.toNatClampNeg) = us := by rfl) (hW : (rest.map fun v => v.category).sum ≤ W := by exact Nat.le_of_eq rfl) (hf : 1 ≤ R.frames := by decide) (hlo : W + (nativeFrameWords "java/lang/System" "arraycopy" 5 + 11) ≤ R.locals := by decide) : Go p l e R s m args below meth c Z EL n0 own Q S h k n pc Ls (.int nn :: .int dp :: .ref b :: .int sp :: .ref a :: rest) := by
  subst hp
  intro T ⟨locs, vm0, k0, k1, n1, q1, q2, X, eT, hS, hk0, hZ, hown, N, O, C, SL⟩
  obtain ⟨T', h', L, X', e', N', K, A', sp⟩ := cpA X B.1 hZ hown w1 w2 w3 w4 eT A D (Or.inl ⟨rfl, rfl⟩) h1 h2 h3 h4 h5 rfl hl N ha (g := mkF m pc Ls (.int nn :: .int dp :: .ref b :: .int sp :: .ref a :: rest)) rfl (by rw [B.2.2.1]; exact hsz) rfl (hb B.2.1 hd) hf (W := W) (by show 2 * 0 + _ ≤ _; omega) hlo
  have hs1 : ∀ x ∈ [b], Safe Z EL vm0 h x := fun x hx => by rw [List.mem_singleton.mp hx]; exact (SL b hsafe).2
  have A := CHr.keep (EL := EL) (vm := vm0) K hs1 C.1
  rw [hus] at A'
  obtain ⟨s2, o, q, r2⟩ := hr h' K A' T' ⟨L, vm0, k0, k1, n1, q1, q2, X', e', hS, Nat.le_trans hk0 K.1, hZ, hown, N', O.keep K (fun x hx => by rw [List.mem_singleton.mp hx]; exact ha), C.trans A, SL.chr A⟩
  exact ⟨s2, o, sp _ q, r2⟩
theorem ldcInt (B : Bdy p meth c Z EL a0 bytes maxL ret nm) {index : Nat} {x : Int32} (hd : decode bytes pc = .ok (.ldc index, 2)) (w : (Jvm.Cond.constant own index x).before a0 Z = true) (hr : Go p l e R s m args below meth c Z EL n0 own Q S h k n pc' Ls (.int x :: st)) (hp : pc' = pc + 2 := by rfl) : Go p l e R s m args below meth c Z EL n0 own Q S h k n pc Ls st := by
  subst hp
  exact warm hr fun T vm0 locs k1 n1 X eT hZ hown _ => ⟨T, X, eT, fun t q => X.ldcInt B.1 hown (mvT (s := s.setVm vm0) hZ w) (g := mkF m pc Ls st) rfl (hb B.2.1 hd) t q⟩
theorem ldcText (B : Bdy p meth c Z EL a0 bytes maxL ret nm) {index nn : Nat} {text : String} (hd : decode bytes pc = .ok (.ldc index, 2)) (w : (Jvm.Cond.stringLink own index text).before a0 Z = true) (hmem : (own, index) ∈ EL) {vs : List Value} {z : Int32} (ht : (∀ c ∈ text.toList, c.toNat < 256) ∧ text.toList.map (fun c => Value.int (Jvm.Lit.byteI c.toNat.toUInt16)) = vs) (hz : ¬ z < 0) (hlz : z.toNatClampNeg = vs.length) 
    (hr : ∀ (h' : Heap) (a b : Nat) (kb : ClassId), Keep h h' [] → Exa Z h' a "java/lang/String" → Fld Z h' a "java/lang/String" "coder" "B" (.int 0) → Fld Z h' a "java/lang/String" "value" "[B" (.ref b) → Arv Z h' b kb .byte z vs (.int 0) → (∀ x ∈ S, x ≠ a ∧ x ≠ b) → Go p l e R s m args below meth c Z EL n0 own Q S h' k' n' pc' Ls (.ref a :: st)) (hp : pc' = pc + 2 := by rfl) (hk : k + 2 ≤ k' := by decide) (hn : n + (nn + 4) ≤ n' := by decide) (hkR : k' ≤ R.cells := by decide) (hnR : n' ≤ R.slots := by decide) (hnn : 4 * text.toList.length ≤ nn := by decide) (hbig : nn ≤ 536870912 := by decide) : Go p l e R s m args below meth c Z EL n0 own Q S h k n pc Ls st := by
  subst hp
  intro T ⟨locs, vm0, k0, k1, n1, q1, q2, X, eT, hS, hk0, hZ, hown, N, O, C, SL⟩
  obtain ⟨a, T', h', k2, b, kb, X', e', E, hS', hk', hZ', hown', f1, f2, f3, f4, -, -, C', -, ne, sp⟩ := ldcCH (EL := EL) X B.1 hZ hown w B.2.2.2.2.2.2.2 eT hS hk0 B.2.2.2.2.2.2.1 hmem C.1 ht hz hlz (g := mkF m pc Ls st) rfl (hb B.2.1 hd) hnn hbig (by omega) (by omega)
  have SL' := SL.chr C'
  obtain ⟨s2, o, q, r2⟩ := hr h' a b kb (keepE E) f1 f2 f3 f4 (fun x hx => ne x (SL' x hx).2) T' ⟨locs, T'.vm, k2, k1 + 2, n1 + (nn + 4), by omega, by omega, X', e', hS', hk', hZ', hown', N, O.ext E, C.trans C', SL'⟩
  exact ⟨s2, o, sp _ q, r2⟩
theorem finish (B : Bdy p meth c Z EL a0 bytes maxL ret nm) {v : Option Value} (hv : ret = none → v = none) (hQ : Q v h S') 
    (sp : ∀ (s' T : State) (locs : List Loc) (k1 n1 : Nat) (fs : List Frame), Stand p l e R s' m args below meth c T locs k1 n1 → (∀ (f : JFrame) (acts : List Action), f.method = m → f.locked = none → f.entered = [] → (doReturn e (T.setTop f) acts v).1 = T.setFrames fs) → Steps p.tables e below (T.setTop (mkF m pc Ls st)) (T.setFrames fs)) (hkR : k ≤ R.cells := by decide) (hnR : n ≤ R.slots := by decide) (hsub : ∀ x ∈ S', x ∈ S := by simp) : Go p l e R s m args below meth c Z EL n0 own Q S h k n pc Ls st := by
  intro T ⟨locs, vm0, k0, k1, n1, q1, q2, X, eT, hS, hk0, hZ, hown, N, O, C, SL⟩
  obtain ⟨fs, hr, hrun, hended, hE⟩ := X.leaveW (v := v) hS (by rw [eT]; exact hk0) (fun z => hv (B.2.2.2.1.symm.trans z)) B.2.2.2.2.2.1
  have A := CHv.at X hZ B.2.2.2.2.2.2.1 C.1
  subst eT
  exact ⟨_, _, sp _ T locs k1 n1 fs X hr, hrun, hended, v, locs, S', rfl, ⟨hQ, N, O, (SL.chr A).sub hsub⟩, C.trans A, hE.1, hE.2.1, hE.2.2.1, hE.2.2.2.mono (by omega) (by omega)⟩
theorem retV (B : Bdy p meth c Z EL a0 bytes maxL ret nm) (hd : decode bytes pc = .ok (.return_, 1)) (hQ : Q none h S') (hkR : k ≤ R.cells := by decide) (hnR : n ≤ R.slots := by decide) (hret : ret = none := by rfl) (hsub : ∀ x ∈ S', x ∈ S := by simp) : Go p l e R s m args below meth c Z EL n0 own Q S h k n pc Ls [] :=
  finish B (fun _ => rfl) hQ (fun s' T locs k1 n1 fs X hr => X.returnOut B.1 (B.2.2.2.1.trans hret) (hb B.2.1 hd) hr) hkR hnR hsub
theorem retA (B : Bdy p meth c Z EL a0 bytes maxL ret nm) {t : FieldType} {w : Value} (hd : decode bytes pc = .ok (.areturn, 1)) (hQ : Q (some w) h S') (hkR : k ≤ R.cells := by decide) (hnR : n ≤ R.slots := by decide) (hret : ret = some t := by rfl) (hsub : ∀ x ∈ S', x ∈ S := by simp) (hw : w.isRef = true := by rfl) (hnn : narrow t w = w := by rfl) (ht : t.isReference = true := by rfl) : Go p l e R s m args below meth c Z EL n0 own Q S h k n pc Ls (w :: rest) :=
  finish B (fun z => by rw [hret] at z; cases z) hQ (fun s' T locs k1 n1 fs X hr => retOut X B.1 (B.2.2.2.1.trans hret) hnn (Or.inr (Or.inr (Or.inr (Or.inr ⟨rfl, ht, hw⟩)))) (hb B.2.1 hd) hr) hkR hnR hsub
theorem retI (B : Bdy p meth c Z EL a0 bytes maxL ret nm) {t : FieldType} {w : Int32} (hd : decode bytes pc = .ok (.ireturn, 1)) (hQ : Q (some (.int w)) h S') (hkR : k ≤ R.cells := by decide) (hnR : n ≤ R.slots := by decide) (hret : ret = some t := by rfl) (hsub : ∀ x ∈ S', x ∈ S := by simp) (hnn : narrow t (.int w) = .int w := by rfl) (ht : t = .int ∨ t = .boolean ∨ t = .byte ∨ t = .char ∨ t = .short := by simp) : Go p l e R s m args below meth c Z EL n0 own Q S h k n pc Ls (.int w :: rest) :=
  finish B (fun z => by rw [hret] at z; cases z) hQ (fun s' T locs k1 n1 fs X hr => retOut X B.1 (B.2.2.2.1.trans hret) hnn (Or.inl ⟨rfl, ht, _, rfl⟩) (hb B.2.1 hd) hr) hkR hnR hsub
theorem acmpR (B : Bdy p meth c Z EL a0 bytes maxL ret nm) {cd : ACond} {x y : Value} {o : Int} {same : Bool} (hd : decode bytes pc = .ok (.if_acmp cd o, 3)) (hq : decide (x = y) = same) (hr : Go p l e R s m args below meth c Z EL n0 own Q S h k n pc' Ls rest) (ho : 0 ≤ (pc : Int) + o := by decide) (hp : pc' = if acV cd same = true then ((pc : Int) + o).toNat else pc + 3 := by decide) (h1 : x.isRef = true := by rfl) (h2 : y.isRef = true := by rfl) : Go p l e R s m args below meth c Z EL n0 own Q S h k n pc Ls (y :: x :: rest) :=
  warm hr fun T vm0 locs k1 n1 X eT hZ hown _ => ⟨T, X, eT, fun t q => acmp X B.1 rfl h1 h2 (g := mkF m pc Ls (y :: x :: rest)) (pc0 := pc) rfl (hb B.2.1 hd) rfl hq ho hp q⟩
def Str (Z : State) (h : Heap) (a t : Addr) (kb : ClassId) (cod z : Int32) (vs : List Value) : Prop := Exa Z h a "java/lang/String" ∧ Fld Z h a "java/lang/String" "coder" "B" (.int cod) ∧ Fld Z h a "java/lang/String" "value" "[B" (.ref t) ∧ Arv Z h t kb .byte z vs (.int 0)
def Rng (cs : List Int32) : Prop := ∀ x ∈ cs, ¬ x < (0 : Int32) ∧ ¬ (65535 : Int32) < x
def Lat (cs : List Int32) : Prop := ∀ x ∈ cs, ¬ (255 : Int32) < x
def Chs (Z : State) (h : Heap) (a t : Addr) (kb : ClassId) (cs : List Int32) : Prop := Exa Z h a "java/lang/String" ∧ Fld Z h a "java/lang/String" "value" "[B" (.ref t) ∧ Rng cs ∧
  ((Fld Z h a "java/lang/String" "coder" "B" (.int 0) ∧ Arv Z h t kb .byte (Int32.ofNat cs.length) (cs.map fun x => .int x.toInt8.toInt32) (.int 0) ∧ Lat cs) ∨
   (Fld Z h a "java/lang/String" "coder" "B" (.int 1) ∧ Arv Z h t kb .byte (Int32.ofNat (2 * cs.length)) (cs.flatMap fun x => [.int x.toInt8.toInt32, .int (x >>> ((8 : Int32) &&& 31)).toInt8.toInt32]) (.int 0) ∧ ∃ x ∈ cs, (255 : Int32) < x))
theorem Chs.keep {a t : Addr} {kb : ClassId} {cs : List Int32} {ws : List Addr} (F : Chs Z h a t kb cs) (K : Keep h h' ws) (qa : a ∉ ws) (qt : t ∉ ws) : Chs Z h' a t kb cs := by
  obtain ⟨E, V, r, ⟨C, A, L⟩ | ⟨C, A, L⟩⟩ := F
  · exact ⟨E.keep K, V.keep K qa, r, Or.inl ⟨C.keep K qa, A.keep K qt, L⟩⟩
  · exact ⟨E.keep K, V.keep K qa, r, Or.inr ⟨C.keep K qa, A.keep K qt, L⟩⟩
theorem Chs.lt {a t : Addr} {kb : ClassId} {cs : List Int32} (F : Chs Z h a t kb cs) : a < h.size := F.1.lt
theorem Chs.ltt {a t : Addr} {kb : ClassId} {cs : List Int32} (F : Chs Z h a t kb cs) : t < h.size := by
  obtain ⟨E, V, r, ⟨C, A, L⟩ | ⟨C, A, L⟩⟩ := F
  · exact A.lt
  · exact A.lt
theorem eq_int_v {args : Array Value} {first s' : State} {o : Option Outcome} {idx : List Nat} {t : Term} {c : Int32} (hq : (Jvm.Cond.eq t (.int c)).value args first o s' idx = some true) : t.eval args first o idx s' = some (.int c) := by
  simp only [Cond.value, Term.int_eval] at hq
  cases ht : t.eval args first o idx s' with
  | none => rw [ht] at hq; simp at hq
  | some v => rw [ht] at hq; cases v <;> simp_all
def Glo (Z : State) (cz : Int32) (sf : Value) : Prop := Sta Z Z.heap "java/lang/String" "COMPACT_STRINGS" "Z" (.int cz) ∧ cz ≠ 0 ∧ Sta Z Z.heap "jdk/internal/util/Preconditions" "SIOOBE_FORMATTER" "Ljava/util/function/BiFunction;" sf ∧ sf.isRef = true
theorem nnAnd (x y : Int32) : (x &&& y).toBitVec.toNat ≤ y.toBitVec.toNat := by
  have : (x &&& y).toBitVec.toNat = x.toBitVec.toNat &&& y.toBitVec.toNat := by simp
  rw [this]; exact Nat.and_le_right
theorem toInt_small {x : Int32} {n : Nat} (h : x.toBitVec.toNat ≤ n) (hn : n < 2147483648) : x.toInt = x.toBitVec.toNat := by
  show x.toBitVec.toInt = _
  rw [BitVec.toInt_eq_toNat_of_lt (by omega)]
/-- x &&& y for y from 0: from 0 to y -/
theorem and_rng (x : Int32) {y : Int32} {n : Nat} (hy : y.toBitVec.toNat = n) (hn : n < 2147483648) : 0 ≤ (x &&& y).toInt ∧ (x &&& y).toInt ≤ n := by
  have h := nnAnd x y
  rw [hy] at h
  have := toInt_small h hn
  omega
theorem i2c_idem (x : Int32) : (x.toUInt32.toUInt16.toUInt32.toInt32).toUInt32.toUInt16.toUInt32.toInt32 = x.toUInt32.toUInt16.toUInt32.toInt32 := by
  have h : ∀ u : UInt16, u.toUInt32.toInt32.toUInt32.toUInt16 = u := fun u => by simp
  rw [h]
theorem i2c_rng {x c : Int32} (hc : x.toUInt32.toUInt16.toUInt32.toInt32 = c) : 0 ≤ c.toInt ∧ c.toInt ≤ 65535 := by
  subst hc
  have := x.toUInt32.toUInt16.toNat_lt
  have h : (x.toUInt32.toUInt16.toUInt32.toInt32).toBitVec.toNat ≤ 65535 := by
    show (x.toUInt32.toUInt16.toUInt32).toNat ≤ _
    simp only [UInt16.toNat_toUInt32]
    omega
  have := toInt_small h (by decide)
  omega
theorem cge0 {x c : Int32} (hc : x.toUInt32.toUInt16.toUInt32.toInt32 = c) : ¬ c < (0 : Int32) := by
  have := i2c_rng hc
  rw [Int32.lt_iff_toInt_lt, show (0 : Int32).toInt = 0 from by decide]; omega
theorem cnar {x c : Int32} (hc : x.toUInt32.toUInt16.toUInt32.toInt32 = c) : nar .char c = c := by subst hc; exact i2c_idem x
theorem cnarrow {c : Int32} (hc : nar .char c = c) : narrow .char (.int c) = .int c := congrArg Value.int hc
theorem rng255 {x : Int32} (h0 : ¬ x < (0 : Int32)) (h1 : ¬ (255 : Int32) < x) : 0 ≤ x.toInt ∧ x.toInt ≤ 255 := by
  rw [Int32.lt_iff_toInt_lt, show (0 : Int32).toInt = 0 from by decide] at h0
  rw [Int32.lt_iff_toInt_lt, show (255 : Int32).toInt = 255 from by decide] at h1
  omega
theorem ofRng {x : Int32} {n : Nat} (hn : n < 2147483648) (h : 0 ≤ x.toInt ∧ x.toInt ≤ n) : ∃ k : Nat, k ≤ n ∧ x = Int32.ofNat k := by
  refine ⟨x.toInt.toNat, by omega, Int32.toInt_inj.mp ?_⟩
  rw [Int32.toInt_ofNat_of_lt (by omega)]; omega
theorem all256 (P : Int32 → Bool) (h : (List.range 256).all (fun k => P (Int32.ofNat k)) = true) {x : Int32} (h0 : ¬ x < (0 : Int32)) (h1 : ¬ (255 : Int32) < x) : P x = true := by
  obtain ⟨k, hk, rfl⟩ := ofRng (n := 255) (by decide) (by have := rng255 h0 h1; omega)
  exact List.all_eq_true.mp h k (List.mem_range.mpr (by omega))
theorem b255 {x : Int32} (h0 : ¬ x < (0 : Int32)) (h1 : ¬ (255 : Int32) < x) : x.toInt8.toInt32 &&& 255 = x := by
  have := all256 (fun x => x.toInt8.toInt32 &&& 255 == x) (by decide +kernel) h0 h1
  exact eq_of_beq this
theorem c_id {x : Int32} (h0 : ¬ x < (0 : Int32)) (h1 : ¬ (255 : Int32) < x) : x.toUInt32.toUInt16.toUInt32.toInt32 = x := by
  have := all256 (fun x => x.toUInt32.toUInt16.toUInt32.toInt32 == x) (by decide +kernel) h0 h1
  exact eq_of_beq this
theorem nar_id {x : Int32} (h0 : ¬ x < (0 : Int32)) (h1 : ¬ (255 : Int32) < x) : nar .char x = x := c_id h0 h1
theorem low8 (b : BitVec 8) : (b.signExtend 32 &&& 255#32).toNat = b.toNat := by
  have : ∀ b : BitVec 8, (b.signExtend 32 &&& 255#32).toNat = b.toNat := by decide
  exact this b
theorem lo_nat (x : Int32) : (x.toInt8.toInt32 &&& 255).toBitVec.toNat = x.toBitVec.toNat % 256 := by
  have h := low8 x.toInt8.toBitVec
  have e : (x.toInt8.toInt32 &&& 255).toBitVec = (x.toInt8.toBitVec.signExtend 32 &&& 255#32) := by
    simp
  rw [e, h, Int32.toBitVec_toInt8]
  rw [BitVec.toNat_signExtend]
  simp [BitVec.toNat_setWidth]
theorem shr8 (x : Int32) (h : x.toBitVec.toNat < 65536) : (x >>> ((8 : Int32) &&& 31)).toBitVec.toNat = x.toBitVec.toNat / 256 := by
  have e : (x >>> ((8 : Int32) &&& 31)).toBitVec = x.toBitVec.sshiftRight 8 := by
    have : ((8 : Int32) &&& 31) = 8 := by decide
    rw [this, Int32.toBitVec_shiftRight]
    rfl
  rw [e, BitVec.sshiftRight_eq_of_msb_false (by rw [BitVec.msb_eq_false_iff_two_mul_lt]; omega)]
  rw [BitVec.toNat_ushiftRight]
  rw [Nat.shiftRight_eq_div_pow]
theorem shl8 (x : Int32) : (x <<< ((8 : Int32) &&& 31)).toBitVec.toNat = (x.toBitVec.toNat * 256) % 4294967296 := by
  have e : (x <<< ((8 : Int32) &&& 31)).toBitVec = x.toBitVec <<< 8 := by
    have : ((8 : Int32) &&& 31) = 8 := by decide
    rw [this, Int32.toBitVec_shiftLeft]
    rfl
  rw [e, BitVec.toNat_shiftLeft, Nat.shiftLeft_eq]
theorem shl0 (x : Int32) : x <<< ((0 : Int32) &&& 31) = x := by
  apply Int32.toBitVec_inj.mp
  simp
theorem toNat_rng {x : Int32} {n : Nat} (h0 : 0 ≤ x.toInt) (h1 : x.toInt ≤ n) (hn : n < 2147483648) : x.toBitVec.toNat ≤ n := by
  have e : x.toInt = x.toBitVec.toInt := rfl
  rw [e] at h0 h1
  have hlt := x.toBitVec.isLt
  rw [BitVec.toInt_eq_toNat_cond] at h0 h1
  split at h0 <;> omega
theorem rng65535 {x : Int32} (h0 : ¬ x < (0 : Int32)) (h1 : ¬ (65535 : Int32) < x) : x.toBitVec.toNat ≤ 65535 := by
  rw [Int32.lt_iff_toInt_lt, show (0 : Int32).toInt = 0 from by decide] at h0
  rw [Int32.lt_iff_toInt_lt, show (65535 : Int32).toInt = 65535 from by decide] at h1
  exact toNat_rng (by omega) (by omega) (by decide)
theorem c_id16 {x : Int32} (h0 : ¬ x < (0 : Int32)) (h1 : ¬ (65535 : Int32) < x) : x.toUInt32.toUInt16.toUInt32.toInt32 = x := by
  have h := rng65535 h0 h1
  apply Int32.toBitVec_inj.mp
  apply BitVec.eq_of_toNat_eq
  show (x.toUInt32.toUInt16.toUInt32).toNat = x.toUInt32.toNat
  rw [UInt16.toNat_toUInt32, UInt32.toNat_toUInt16]
  have : x.toUInt32.toNat = x.toBitVec.toNat := rfl
  omega
theorem u16 {x : Int32} (h0 : ¬ x < (0 : Int32)) (h1 : ¬ (65535 : Int32) < x) : ((x.toInt8.toInt32 &&& 255) <<< ((0 : Int32) &&& 31)) ||| (((x >>> ((8 : Int32) &&& 31)).toInt8.toInt32 &&& 255) <<< ((8 : Int32) &&& 31)) = x := by
  have h := rng65535 h0 h1
  rw [shl0]
  apply Int32.toBitVec_inj.mp
  apply BitVec.eq_of_toNat_eq
  rw [Int32.toBitVec_or, BitVec.toNat_or, lo_nat, shl8, lo_nat, shr8 x (by omega)]
  generalize x.toBitVec.toNat = n at *
  have e1 : n / 256 % 256 * 256 % 4294967296 = (n / 256) <<< 8 := by rw [Nat.shiftLeft_eq]; omega
  rw [e1, Nat.or_comm, ← Nat.shiftLeft_add_eq_or_of_lt (by omega : n % 256 < 2 ^ 8), Nat.shiftLeft_eq]
  omega
theorem shr0 (x : Int32) : x >>> ((0 : Int32) &&& 31) = x := by
  apply Int32.toBitVec_inj.mp
  simp
theorem nar_id16 {x : Int32} (h0 : ¬ x < (0 : Int32)) (h1 : ¬ (65535 : Int32) < x) : nar .char x = x := c_id16 h0 h1
theorem cle16 {x c : Int32} (hc : x.toUInt32.toUInt16.toUInt32.toInt32 = c) : ¬ (65535 : Int32) < c := by
  have := i2c_rng hc
  rw [Int32.lt_iff_toInt_lt, show (65535 : Int32).toInt = 65535 from by decide]; omega
theorem nar_b (x : Int32) : nar .byte x.toInt8.toInt32 = x.toInt8.toInt32 := by simp [nar]
theorem Go.loop {α : Type} {pc1 : Nat} (I : Nat → α → Heap → Prop) (F : α → Array Slot) (hs : ∀ i x h, I i x h → (∀ j y h', j < i → I j y h' → Go p l e R s m args below meth c Z EL n0 own Q S h' k n pc1 (F y) []) → Go p l e R s m args below meth c Z EL n0 own Q S h k n pc1 (F x) []) (i : Nat) (x : α) (h0 : I i x h) : Go p l e R s m args below meth c Z EL n0 own Q S h k n pc1 (F x) [] := by
  have H : ∀ t i x h, i < t → I i x h → Go p l e R s m args below meth c Z EL n0 own Q S h k n pc1 (F x) [] := by
    intro t
    induction t with
    | zero => intro i x h q; exact absurd q (Nat.not_lt_zero _)
    | succ t ih => intro i x h q r; exact hs i x h r fun j y h' q' r' => ih j y h' (by omega) r'
  exact H (i + 1) i x h (Nat.lt_succ_self _) h0
def UI (u : Slot) : Prop := u = .unset ∨ ∃ y : Int32, u = .val (.int y)
theorem nI {i : Nat} (hi : i < 2147483648) : (Int32.ofNat i).toInt = i := Int32.toInt_ofNat_of_lt hi
theorem nlt {i n : Nat} (hi : i < 2147483648) (hn : n < 2147483648) : (Int32.ofNat i < Int32.ofNat n) ↔ i < n := by
  rw [Int32.lt_iff_toInt_lt, nI hi, nI hn]; omega
theorem nlT {i n : Nat} (h : i < n) (hn : n ≤ 128 := by omega) : Int32.ofNat i < Int32.ofNat n := (nlt (by omega) (by omega)).mpr h
theorem nlF {i n : Nat} (h : ¬ i < n) (hi : i ≤ 128 := by omega) : ¬ Int32.ofNat i < Int32.ofNat n := fun q => h ((nlt (by omega) (by omega)).mp q)
theorem nc {i : Nat} (hi : i ≤ 128 := by omega) : (Int32.ofNat i).toNatClampNeg = i := by
  simp only [Int32.toNatClampNeg, nI (i := i) (by omega)]; omega
theorem nn {i : Nat} (hi : i ≤ 128 := by omega) : ¬ Int32.ofNat i < 0 := by
  rw [Int32.lt_iff_toInt_lt, nI (by omega)]; simp
theorem nS (i : Nat) : Int32.ofNat i + 1 = Int32.ofNat (i + 1) := by
  rw [Int32.ofNat_add]; rfl
theorem nE {i n : Nat} (hi : i ≤ 128 := by omega) (hn : n ≤ 128 := by omega) (h : i ≠ n := by omega) : ¬ Int32.ofNat i = Int32.ofNat n := fun q => by
  have := congrArg Int32.toInt q
  rw [nI (by omega), nI (by omega)] at this; omega
theorem nsub {i n : Nat} (h : i ≤ n) : Int32.ofNat n - Int32.ofNat i = Int32.ofNat (n - i) := by
  have : Int32.ofNat n = Int32.ofNat (n - i) + Int32.ofNat i := by rw [← Int32.ofNat_add]; congr 1; omega
  rw [this]; simp
theorem nD' : ∀ i < 65, Int32.ofNat i <<< ((1 : Int32) &&& 31) = Int32.ofNat (2 * i) := by decide +kernel
theorem nH' : ∀ i < 65, Int32.ofNat (2 * i) >>> ((1 : Int32) &&& 31) = Int32.ofNat i := by decide +kernel
theorem nD {i : Nat} (h : i ≤ 64 := by omega) : Int32.ofNat i <<< ((1 : Int32) &&& 31) = Int32.ofNat (2 * i) := nD' i (by omega)
theorem nH {i : Nat} (h : i ≤ 64 := by omega) : Int32.ofNat (2 * i) >>> ((1 : Int32) &&& 31) = Int32.ofNat i := nH' i (by omega)
theorem tk {α : Type} {l : List α} {i : Nat} {b z : α} (h : l[i]? = some b) : (l.take i ++ [z]).set i b = l.take (i + 1) := by
  obtain ⟨hi, rfl⟩ := List.getElem?_eq_some_iff.mp h
  rw [List.take_add_one, h]
  simp [Nat.min_eq_left (Nat.le_of_lt hi)]
theorem pad1 {α : Type} (l : List α) (dv : α) : ∀ i, (l ++ [dv]).getD i dv = l.getD i dv := fun i => by
  simp only [List.getD_eq_getElem?_getD]
  by_cases q : i < l.length
  · rw [List.getElem?_append_left q]
  · rw [List.getElem?_append_right (Nat.le_of_not_lt q), List.getElem?_eq_none (Nat.le_of_not_lt q)]
    cases i - l.length <;> simp
theorem gD {α : Type} {l : List α} {i : Nat} {b dv : α} (h : l[i]? = some b) : l.getD i dv = b := by rw [List.getD_eq_getElem?_getD, h]; rfl
abbrev CA (cs : List Int32) : List Value := cs.map Value.int
abbrev LB (cs : List Int32) : List Value := cs.map fun x => .int x.toInt8.toInt32
abbrev UB (cs : List Int32) : List Value := cs.flatMap fun x => [.int x.toInt8.toInt32, .int (x >>> ((8 : Int32) &&& 31)).toInt8.toInt32]
theorem UBl {α β : Type} (f g : α → β) (cs : List α) : (cs.flatMap fun x => [f x, g x]).length = 2 * cs.length := by
  induction cs with
  | nil => rfl
  | cons x r ih => simp only [List.flatMap_cons, List.length_append, List.length_cons, List.length_nil, ih]; omega
theorem UBa {α β : Type} (f g : α → β) : ∀ (cs : List α) (j : Nat) {x : α}, cs[j]? = some x → (cs.flatMap fun x => [f x, g x])[2 * j]? = some (f x) ∧ (cs.flatMap fun x => [f x, g x])[2 * j + 1]? = some (g x)
  | [], _, _, h => by simp at h
  | y :: r, 0, x, h => by simp at h; subst h; simp
  | y :: r, j + 1, x, h => by
    have := UBa f g r j (x := x) (by simpa using h)
    have e : 2 * (j + 1) = 2 * j + 2 := by omega
    rw [e]
    simpa [List.flatMap_cons, Nat.add_right_comm] using this
theorem CAa {cs : List Int32} {j : Nat} {x : Int32} (h : cs[j]? = some x) : (CA cs)[j]? = some (.int x) := by simp [CA, h]
theorem LBa {cs : List Int32} {j : Nat} {x : Int32} (h : cs[j]? = some x) : (LB cs)[j]? = some (.int x.toInt8.toInt32) := by simp [LB, h]
theorem take1 {cs : List Int32} {j : Nat} {x : Int32} {P : Int32 → Prop} (h : cs[j]? = some x) (a : ∀ y ∈ cs.take j, P y) (b : P x) : ∀ y ∈ cs.take (j + 1), P y := by
  intro y hy
  rw [List.take_add_one, h] at hy
  rcases List.mem_append.mp hy with q | q
  · exact a y q
  · simp at q; exact q ▸ b
theorem takeN {α : Type} {l : List α} {n : Nat} (h : l.length ≤ n) : l.take n = l := List.take_of_length_le h
theorem nBig {i : Nat} (h : i ≤ 64 := by omega) : Int32.ofNat i < 1073741823 := by
  rw [Int32.lt_iff_toInt_lt, nI (by omega)]; show (i : Int) < 1073741823; omega
theorem cal0' : ∀ i < 65, Jvm.Free.XT.ushr (Int32.ofNat i - Int32.ofNat i) 31 = 0 := by decide +kernel
theorem cal1' : ∀ i < 65, 0 < i → Jvm.Free.XT.ushr (Int32.ofNat i - Int32.ofNat (2 * i)) 31 = 1 := by decide +kernel
theorem cal0 {i : Nat} (h : i ≤ 64 := by omega) : Jvm.Free.XT.ushr (Int32.ofNat i - Int32.ofNat i) 31 = 0 := cal0' i (by omega)
theorem cal1 {i : Nat} (h0 : 0 < i) (h : i ≤ 64 := by omega) : Jvm.Free.XT.ushr (Int32.ofNat i - Int32.ofNat (2 * i)) 31 = 1 := cal1' i (by omega) h0
theorem UBt {cs : List Int32} {j : Nat} {x : Int32} {u v : Value} (h : cs[j]? = some x) : ((((UB cs).take (2 * j) ++ [u]).set (2 * j) (.int x.toInt8.toInt32)) ++ [v]).set (2 * j + 1) (.int (x >>> ((8 : Int32) &&& 31)).toInt8.toInt32) = (UB cs).take (2 * (j + 1)) := by
  have q := UBa (fun x : Int32 => Value.int x.toInt8.toInt32) (fun x : Int32 => Value.int (x >>> ((8 : Int32) &&& 31)).toInt8.toInt32) cs j h
  rw [tk q.1, tk q.2]; rfl
theorem UBn (cs : List Int32) : (UB cs).length = 2 * cs.length := UBl _ _ cs
theorem nil0 {cs : List Int32} (h : Int32.ofNat cs.length = 0) (hN : cs.length ≤ 64) : cs = [] := by
  have := congrArg Int32.toInt h
  rw [nI (by omega)] at this
  exact List.eq_nil_of_length_eq_zero (by have e : (0 : Int32).toInt = 0 := rfl; omega)
theorem pos0 {cs : List Int32} (h : ¬ Int32.ofNat cs.length = 0) : 0 < cs.length := by
  rcases Nat.eq_zero_or_pos cs.length with q | q
  · exact absurd (by rw [q]; rfl) h
  · exact q
theorem Chs.nil {a t : Addr} {kb : ClassId} (E : Exa Z h a "java/lang/String") (V : Fld Z h a "java/lang/String" "value" "[B" (.ref t)) (C : Fld Z h a "java/lang/String" "coder" "B" (.int 0)) (A : Arv Z h t kb .byte 0 [] (.int 0)) : Chs Z h a t kb [] := ⟨E, V, fun _ q => (nomatch q), Or.inl ⟨C, A, fun _ q => (nomatch q)⟩⟩
theorem cpy {α : Type} {vs : List α} {dv : α} {i n : Nat} (h : i + n ≤ vs.length) : ((List.replicate n dv).take 0 ++ ((List.range n).map fun k => vs.getD (i + k) dv) ++ (List.replicate n dv).drop (0 + n)) = (vs.drop i).take n := by
  apply List.ext_getElem?
  intro k
  simp only [List.take_zero, List.nil_append, Nat.zero_add, List.drop_replicate, Nat.sub_self, List.replicate_zero, List.append_nil, List.getElem?_map, List.getElem?_take, List.getElem?_drop]
  by_cases q : k < n
  · rw [if_pos q, List.getElem?_range q]
    simp [List.getD_eq_getElem?_getD, List.getElem?_eq_getElem (show i + k < vs.length by omega)]
  · rw [if_neg q, List.getElem?_eq_none (by simp; omega)]; rfl
theorem UBt' {α β : Type} (f g : α → β) : ∀ (cs : List α) (i : Nat), (cs.flatMap fun x => [f x, g x]).take (2 * i) = (cs.take i).flatMap fun x => [f x, g x]
  | [], _ => by simp
  | _ :: _, 0 => by simp
  | y :: r, i + 1 => by
    have := UBt' f g r i
    have e : 2 * (i + 1) = 2 * i + 2 := by omega
    rw [e]; simpa [List.flatMap_cons] using this
theorem orNN {x y : Int32} (hx : ¬ x < 0) (hy : ¬ y < 0) : ¬ (x ||| y) < 0 := by
  have k : ∀ z : Int32, z < 0 ↔ z.toBitVec.msb = true := fun z => by
    rw [Int32.lt_iff_toInt_lt, BitVec.msb_eq_toInt]; simp
  rw [k] at *
  simp_all
theorem nz {i : Nat} (h : Int32.ofNat i = 0) (hi : i ≤ 128) : i = 0 := by
  have := congrArg Int32.toInt h
  rw [nI (by omega)] at this
  have e : (0 : Int32).toInt = 0 := rfl
  omega
abbrev sl {α : Type} (cs : List α) (i n : Nat) : List α := (cs.drop i).take n
theorem sl_len {α : Type} {cs : List α} {i n : Nat} (h : i + n ≤ cs.length) : (sl cs i n).length = n := by simp; omega
theorem sl_at {α : Type} {cs : List α} {i n j : Nat} {x : α} (h : (sl cs i n)[j]? = some x) : j < n ∧ cs[i + j]? = some x := by
  simp only [sl, List.getElem?_take, List.getElem?_drop] at h
  split at h
  · exact ⟨‹_›, h⟩
  · cases h
theorem nadd (i n : Nat) : Int32.ofNat i + Int32.ofNat n = Int32.ofNat (i + n) := (Int32.ofNat_add i n).symm
theorem nlm {i n : Nat} (h : Int32.ofNat i < Int32.ofNat n) (hi : i ≤ 128 := by omega) (hn : n ≤ 128 := by omega) : i < n := (nlt (by omega) (by omega)).mp h
theorem nlmF {i n : Nat} (h : ¬ Int32.ofNat i < Int32.ofNat n) (hi : i ≤ 128 := by omega) (hn : n ≤ 128 := by omega) : n ≤ i := Nat.le_of_not_lt fun q => h ((nlt (by omega) (by omega)).mpr q)
theorem andN (x : Int32) {y : Int32} {n : Nat} (hy : y.toBitVec.toNat = n) (hn : n < 2147483648) : ∃ k : Nat, k ≤ n ∧ x &&& y = Int32.ofNat k := ofRng hn (and_rng x hy hn)
theorem UBp {ds ss : List Int32} : (UB (ds ++ ss)).take (2 * (ds.length + 0)) = UB ds := by rw [UB, UBt']; simp
theorem UBq {ds ss : List Int32} : (UB (ds ++ ss)).take (2 * ds.length) = UB ds := UBp
theorem UBe {ds ss : List Int32} {n : Nat} (h : n = ss.length) : (UB (ds ++ ss)).take (2 * (ds.length + n)) = UB (ds ++ ss) := takeN (by rw [UBn]; simp; omega)
theorem LBs {cs : List Int32} {x : Int32} {u : Value} : (LB cs ++ [u]).set cs.length (.int x.toInt8.toInt32) = LB (cs ++ [x]) := by
  rw [List.set_append_right _ _ (by simp)]; simp [LB]
theorem CAs {cs : List Int32} {x : Int32} {u : Value} : (CA cs ++ [u]).set cs.length (.int x) = CA (cs ++ [x]) := by
  rw [List.set_append_right _ _ (by simp)]; simp [CA]
theorem apR {ds ss : List Int32} {j : Nat} {x : Int32} (h : ss[j]? = some x) : (ds ++ ss)[ds.length + j]? = some x := by
  rw [List.getElem?_append_right (by omega)]; simpa using h
theorem Rng.app {cs ds : List Int32} (a : Rng cs) (b : Rng ds) : Rng (cs ++ ds) := fun y q => (List.mem_append.mp q).elim (a y) (b y)
theorem Lat.app {cs ds : List Int32} (a : Lat cs) (b : Lat ds) : Lat (cs ++ ds) := fun y q => (List.mem_append.mp q).elim (a y) (b y)
theorem hiL {cs ds : List Int32} (a : ∃ x ∈ cs, (255 : Int32) < x) : ∃ x ∈ cs ++ ds, (255 : Int32) < x := a.elim fun y q => ⟨y, List.mem_append_left _ q.1, q.2⟩
theorem hiR {cs ds : List Int32} (a : ∃ x ∈ ds, (255 : Int32) < x) : ∃ x ∈ cs ++ ds, (255 : Int32) < x := a.elim fun y q => ⟨y, List.mem_append_right _ q.1, q.2⟩
theorem cpy2 {α : Type} {l vs : List α} {dv : α} : ((l ++ List.replicate vs.length dv).take l.length ++ ((List.range vs.length).map fun k => vs.getD (0 + k) dv) ++ (l ++ List.replicate vs.length dv).drop (l.length + vs.length)) = l ++ vs := by
  rw [List.take_left, List.drop_of_length_le (by simp), List.append_nil]
  congr 1
  have := cpy (α := α) (vs := vs) (dv := dv) (i := 0) (n := vs.length) (by simp)
  simpa using this
theorem LBap (cs ss : List Int32) : LB cs ++ LB ss = LB (cs ++ ss) := by simp [LB]
theorem UBap (cs ss : List Int32) : UB cs ++ UB ss = UB (cs ++ ss) := by simp [UB]
theorem sub16' : ∀ i < 17, ¬ (0 : Int32) < Int32.ofNat i - 16 := by decide +kernel
theorem sub16 {i : Nat} (h : i ≤ 16 := by omega) : ¬ (0 : Int32) < Int32.ofNat i - 16 := sub16' i (by omega)
theorem cntL {a e i m : Nat} (h : i ≤ e) (hm : m = a + e - i) : Int32.ofNat a + Int32.ofNat e - Int32.ofNat i = Int32.ofNat m := by
  subst hm; rw [nadd, nsub (by omega)]
theorem cpyL (cs ss : List Int32) : ((LB cs ++ List.replicate ss.length (Value.int 0)).take cs.length ++ ((List.range ss.length).map fun k => (LB ss).getD (0 + k) (Value.int 0)) ++ (LB cs ++ List.replicate ss.length (Value.int 0)).drop (cs.length + ss.length)) = LB (cs ++ ss) := by
  have q := cpy2 (l := LB cs) (vs := LB ss) (dv := (.int 0 : Value))
  rw [List.length_map, List.length_map] at q
  rw [← LBap]; exact q
theorem cpyU (cs ss : List Int32) : ((UB cs ++ List.replicate (2 * ss.length) (Value.int 0)).take (2 * cs.length) ++ ((List.range (2 * ss.length)).map fun k => (UB ss).getD (0 + k) (Value.int 0)) ++ (UB cs ++ List.replicate (2 * ss.length) (Value.int 0)).drop (2 * cs.length + 2 * ss.length)) = UB (cs ++ ss) := by
  have q := cpy2 (l := UB cs) (vs := UB ss) (dv := (.int 0 : Value))
  rw [UBn, UBn] at q
  rw [← UBap]; exact q

theorem selPrivS {s : State} {args : Array Value} {y : MethodName} {K : String} (hi : (Jvm.Cond.instanceMethod y).before args s = true) (hp : (Jvm.Cond.privateMethod y).before args s = true) (h0 : (Jvm.Cond.selects K y y).before args s = true) (hy : NoH y) : (Jvm.Cond.selects y.cls y y).before args s = true := by
  obtain ⟨mk, methM, hnamed, hmethM, hstM, habM⟩ := Cond.instanceMethod_spec hi
  have hcm : s.vm.findClass y.cls = some mk.cls := findClass_of_methodNamed hnamed
  have hf := State.methodFound?_of_named hnamed hy
  have hsel := selectMethod_private (p := {}) (c := mk.cls) hmethM (Cond.privateMethod_at hp mk methM hnamed hmethM)
  obtain ⟨kP, hkP, hkPi⟩ := notFace_of_selects h0 _ hnamed
  simp [Cond.before, Cond.holds, Cond.value, hcm, hf, hnamed, hsel, hkP, hkPi]
theorem callPrivateS (B : Bdy p meth c Z EL a0 bytes maxL ret nm) {index : Nat} {y : MethodName} {bytes' : ByteArray} {maxL' : Nat} {ret' : Option FieldType} {rm : Room} {S1 : List Addr} {Q' : Po} {argsL : List Value} {ps : List FieldType} {rt : Option FieldType} {W : Nat} {a : Addr} {K K' : String} (hd : decode bytes pc = .ok (.invokevirtual index, 3)) (w1 : (Jvm.Cond.methodLink own index y).before a0 Z = true) (w6 : (Jvm.Cond.instanceMethod y).before a0 Z = true) (w5 : (Jvm.Cond.privateMethod y).before a0 Z = true) (w7 : (Jvm.Cond.selects K' y y).before a0 Z = true) (w3 : (Jvm.Cond.initialized y.cls).before a0 Z = true) (w4 : (Jvm.Cond.code y bytes' maxL' ret').before a0 Z = true) (E : Exa Z h a K)
    (hM : Con l Z EL n0 y bytes' maxL' ret' [] rm (.ref a :: argsL).toArray S1 h Q') (hpd : parseMethodDescriptor y.desc = some ⟨ps, rt⟩)
    (hr : ∀ v h' S', Q' v h' S' → h.size ≤ h'.size → Go p l e R s m args below meth c Z EL n0 own Q (S' ++ S) h' k' n' pc' Ls (v.toList ++ rest)) (hp : pc' = pc + 3 := by rfl) (hln : argsL.length = ps.length := by rfl) (hW : (rest.map fun v => v.category).sum ≤ W := by exact Nat.le_of_eq rfl) (hf : rm.frames + 1 ≤ R.frames := by decide) (hl : W + (maxL' + 11) + rm.locals ≤ R.locals := by decide) (hk : k + rm.cells ≤ k' := by decide) (hn : n + rm.slots ≤ n' := by decide) (hkR : k' ≤ R.cells := by decide) (hnR : n' ≤ R.slots := by decide) (hsub : ∀ x ∈ S1, x ∈ S := by simp) (hsz : Ls.size = maxL := by rfl) (hst : st = argsL.reverse ++ .ref a :: rest := by rfl) (hy : NoH y := by decide) : Go p l e R s m args below meth c Z EL n0 own Q S h k n pc Ls st := by
  subst hp hst
  intro T ⟨locs, vm0, k0, k1, n1, q1, q2, X, eT, hS, hk0, hZ, hown, N, O, C, SL⟩
  obtain ⟨cq, kq, qa, qb, cellB, hcell, hcls, hstat⟩ := isOf (s := s.setVm vm0) hZ eT E
  obtain ⟨v, vm1, P, hW1, X', h2, hg, hpost, hst⟩ := X.privateBackS B.1 (y := y) hown (mvT (s := s.setVm vm0) hZ w1) (mvT (s := s.setVm vm0) hZ w6) (mvT (s := s.setVm vm0) hZ (selPrivS w6 w5 w7 hy)) (Cond.privateMethod_at (args := a0) (mvPri (s := s.setVm vm0) hZ w5)) (mvT (s := s.setVm vm0) hZ w4) hy (Con.back (W := W) hM hZ w4 w3 hf hl B.2.2.2.2.2.2.1 C.1 (SL.sub hsub)) (g := mkF m pc Ls (argsL.reverse ++ .ref a :: rest)) rfl (by rw [B.2.2.1]; exact hsz) (Steps.refl _) hcell (fun q e => by rw [e] at hstat; cases hstat) (argsL := argsL) (rest := rest) (lenOf hpd hln) rfl (by show 2 * 0 + _ ≤ _; omega) (hb B.2.1 hd) (fun _ _ => ⟨rfl, eT, by show k1 + _ ≤ _; omega, by show n1 + _ ≤ _; omega⟩)
  exact after hS hk0 eT q1 q2 hk hn hZ hown N C SL X' h2 hg hpost hst hr
theorem sameM {s : State} {args : Array Value} {y y0 : MethodName} {K : String} (hi : (Jvm.Cond.instanceMethod y).before args s = true) (h0 : (Jvm.Cond.selects K y0 y0).before args s = true) (hc : y0.cls = y.cls) (hy : NoH y) : (Jvm.Cond.sameMethod y.cls y.cls y.name y.desc).before args s = true := by
  obtain ⟨mk, methM, hnamed, hmethM, hstM, habM⟩ := Cond.instanceMethod_spec hi
  have hcm : s.vm.findClass y.cls = some mk.cls := findClass_of_methodNamed hnamed
  have hf := State.methodFound?_of_named hnamed hy
  obtain ⟨c2, r2, m2, q1, q2, q3, q4⟩ := Cond.selects_spec h0
  obtain ⟨kP, hkP, hkPi⟩ := notFace_of_selects h0 _ q3
  have e := findClass_of_methodNamed q3
  rw [hc, hcm] at e
  rw [← Option.some.inj e] at hkP
  simp [Cond.before, Cond.holds, Cond.value, hcm, hf, hnamed, hkP, hkPi]
theorem callSuper (B : Bdy p meth c Z EL a0 bytes maxL ret nm) {index : Nat} {y : MethodName} {bytes' : ByteArray} {maxL' : Nat} {ret' : Option FieldType} {rm : Room} {S1 : List Addr} {Q' : Po} {argsL : List Value} {ps : List FieldType} {rt : Option FieldType} {W : Nat} {a : Nat} {K K' : String} {y0 : MethodName} (hd : decode bytes pc = .ok (.invokespecial index, 3)) (w1 : (Jvm.Cond.methodLink own index y).before a0 Z = true) (w2 : (Jvm.Cond.instanceMethod y).before a0 Z = true) (w3 : (Jvm.Cond.initialized y.cls).before a0 Z = true) (w4 : (Jvm.Cond.code y bytes' maxL' ret').before a0 Z = true) (w5 : (Jvm.Cond.superclass own y.cls).before a0 Z = true) (w0 : (Jvm.Cond.selects K' y0 y0).before a0 Z = true) (E : Exa Z h a K)
    (hM : Con l Z EL n0 y bytes' maxL' ret' [] rm (.ref a :: argsL).toArray S1 h Q') (hpd : parseMethodDescriptor y.desc = some ⟨ps, rt⟩)
    (hr : ∀ v h' S', Q' v h' S' → h.size ≤ h'.size → Go p l e R s m args below meth c Z EL n0 own Q (S' ++ S) h' k' n' pc' Ls (v.toList ++ rest)) (hp : pc' = pc + 3 := by rfl) (hln : argsL.length = ps.length := by rfl) (hW : (rest.map fun v => v.category).sum ≤ W := by exact Nat.le_of_eq rfl) (hf : rm.frames + 1 ≤ R.frames := by decide) (hl : W + (maxL' + 11) + rm.locals ≤ R.locals := by decide) (hk : k + rm.cells ≤ k' := by decide) (hn : n + rm.slots ≤ n' := by decide) (hkR : k' ≤ R.cells := by decide) (hnR : n' ≤ R.slots := by decide) (hsub : ∀ x ∈ S1, x ∈ S := by simp) (hsz : Ls.size = maxL := by rfl) (hst : st = argsL.reverse ++ .ref a :: rest := by rfl) (hy : NoH y := by decide) (hcl : y0.cls = y.cls := by rfl) (hni : y.name ≠ "<init>" := by decide) : Go p l e R s m args below meth c Z EL n0 own Q S h k n pc Ls st := by
  subst hp hst
  intro T ⟨locs, vm0, k0, k1, n1, q1, q2, X, eT, hS, hk0, hZ, hown, N, O, C, SL⟩
  obtain ⟨v, vm1, P, hW1, X', h2, hg, hpost, hst⟩ := superBackS X B.1 hZ hown w1 (sameM w2 w0 hcl hy) w2 w5 hni (Con.back (W := W) hM hZ w4 w3 hf hl B.2.2.2.2.2.2.1 C.1 (SL.sub hsub)) eT (Ins.self E) (g := mkF m pc Ls (argsL.reverse ++ .ref a :: rest)) rfl (by rw [B.2.2.1]; exact hsz) w4 (argsL := argsL) (rest := rest) (lenOf hpd hln) rfl (by show 2 * 0 + _ ≤ _; omega) (hb B.2.1 hd) (fun _ _ => ⟨rfl, eT, by show k1 + _ ≤ _; omega, by show n1 + _ ≤ _; omega⟩)
  exact after hS hk0 eT q1 q2 hk hn hZ hown N C SL X' h2 hg hpost hst hr
theorem notFaceC {s : State} {args : Array Value} {y y0 : MethodName} {K : String} (h0 : (Jvm.Cond.selects K y0 y0).before args s = true) (hc : y0.cls = y.cls) : NotFace s y := fun r0 hn => by
  obtain ⟨c2, r2, m2, q1, q2, q3, q4⟩ := Cond.selects_spec h0
  obtain ⟨kP, hkP, hkPi⟩ := notFace_of_selects h0 _ q3
  have e := findClass_of_methodNamed q3
  rw [hc, findClass_of_methodNamed hn] at e
  rw [← Option.some.inj e] at hkP
  exact ⟨kP, hkP, hkPi⟩
theorem callVirtualN (B : Bdy p meth c Z EL a0 bytes maxL ret nm) {index : Nat} {y : MethodName} {bytes' : ByteArray} {maxL' : Nat} {ret' : Option FieldType} {rm : Room} {S1 : List Addr} {Q' : Po} {argsL : List Value} {ps : List FieldType} {rt : Option FieldType} {W : Nat} {a : Addr} {K K' : String} {y0 z : MethodName} (hd : decode bytes pc = .ok (.invokevirtual index, 3)) (w1 : (Jvm.Cond.methodLink own index y).before a0 Z = true) (w2 : (Jvm.Cond.declares y).before a0 Z = true) (w0 : (Jvm.Cond.selects K' y0 y0).before a0 Z = true) (w5 : (Jvm.Cond.selects K y z).before a0 Z = true) (w6 : (Jvm.Cond.instanceMethod z).before a0 Z = true) (w3 : (Jvm.Cond.initialized z.cls).before a0 Z = true) (w4 : (Jvm.Cond.code z bytes' maxL' ret').before a0 Z = true) (E : Exa Z h a K)
    (hM : Con l Z EL n0 z bytes' maxL' ret' [] rm (.ref a :: argsL).toArray S1 h Q') (hpd : parseMethodDescriptor y.desc = some ⟨ps, rt⟩)
    (hr : ∀ v h' S', Q' v h' S' → h.size ≤ h'.size → Go p l e R s m args below meth c Z EL n0 own Q (S' ++ S) h' k' n' pc' Ls (v.toList ++ rest)) (hp : pc' = pc + 3 := by rfl) (hln : argsL.length = ps.length := by rfl) (hW : (rest.map fun v => v.category).sum ≤ W := by exact Nat.le_of_eq rfl) (hf : rm.frames + 1 ≤ R.frames := by decide) (hl : W + (maxL' + 11) + rm.locals ≤ R.locals := by decide) (hk : k + rm.cells ≤ k' := by decide) (hn : n + rm.slots ≤ n' := by decide) (hkR : k' ≤ R.cells := by decide) (hnR : n' ≤ R.slots := by decide) (hsub : ∀ x ∈ S1, x ∈ S := by simp) (hsz : Ls.size = maxL := by rfl) (hst : st = argsL.reverse ++ .ref a :: rest := by rfl) (hy : NoH y := by decide) (hcl : y0.cls = y.cls := by rfl) : Go p l e R s m args below meth c Z EL n0 own Q S h k n pc Ls st := by
  subst hp hst
  intro T ⟨locs, vm0, k0, k1, n1, q1, q2, X, eT, hS, hk0, hZ, hown, N, O, C, SL⟩
  obtain ⟨cq, kq, qa, qb, qc⟩ := isOf (s := s.setVm vm0) hZ eT E
  obtain ⟨v, vm1, P, hW1, X', h2, hg, hpost, hst⟩ := X.virtualBackS B.1 (y := y) (z := z) hown (mvT (s := s.setVm vm0) hZ w1) (mvT (s := s.setVm vm0) hZ w2) (notFaceC (args := #[]) (mvT (s := s.setVm vm0) hZ w0) hcl) (mvT (s := s.setVm vm0) hZ w5) (mvT (s := s.setVm vm0) hZ w6) hy (Con.back (W := W) hM hZ w4 w3 hf hl B.2.2.2.2.2.2.1 C.1 (SL.sub hsub)) qa qc (g := mkF m pc Ls (argsL.reverse ++ .ref a :: rest)) rfl (by rw [B.2.2.1]; exact hsz) (Steps.refl _) (argsL := argsL) (rest := rest) (lenOf hpd hln) rfl (by show 2 * 0 + _ ≤ _; omega) (hb B.2.1 hd) (fun _ _ => ⟨rfl, eT, by show k1 + _ ≤ _; omega, by show n1 + _ ≤ _; omega⟩)
  exact after hS hk0 eT q1 q2 hk hn hZ hown N C SL X' h2 hg hpost hst hr
end Rules
end Jvm.Ow
namespace Jvm.Pilot.@@N@@
open Jvm Jvm.ClassFile Sem Op Lib Jvm.Free Jvm.Stand Jvm.LawKit Jvm.RoadKit Bundle Jvm.Pilot.@@N@@.Jvm.D
abbrev EL1 : List (String × Nat) := [("com/example/ply3/ply3/TextWriter", 22), ("com/example/ply3/ply3/TextWriter", 48), ("java/lang/String", 7)]
abbrev Hw (a0 : Array Value) (Z : State) : Prop := ∀ d ∈ tables_1, d.before a0 Z = true
abbrev my0 : MethodName := { cls := "java/lang/StringUTF16", name := "compress", desc := "([CI[BII)I" }
abbrev my1 : MethodName := { cls := "java/lang/StringUTF16", name := "newBytesLength", desc := "(I)I" }
abbrev my2 : MethodName := { cls := "java/lang/StringUTF16", name := "newBytesFor", desc := "(I)[B" }
abbrev my3 : MethodName := { cls := "java/lang/StringUTF16", name := "putChar", desc := "([BII)V" }
abbrev my4 : MethodName := { cls := "java/lang/StringUTF16", name := "getChar", desc := "([BI)C" }
abbrev my5 : MethodName := { cls := "java/lang/StringUTF16", name := "toBytes", desc := "([CII)[B" }
abbrev my6 : MethodName := { cls := "java/lang/StringUTF16", name := "compress", desc := "([CII)[B" }
abbrev my7 : MethodName := { cls := "java/lang/StringUTF16", name := "coderFromArrayLen", desc := "([BI)B" }
abbrev my8 : MethodName := { cls := "java/lang/String", name := "<init>", desc := "([CIILjava/lang/Void;)V" }
abbrev my9 : MethodName := { cls := "java/lang/String", name := "<init>", desc := "([C)V" }
abbrev my10 : MethodName := { cls := "java/lang/String", name := "coder", desc := "()B" }
abbrev my11 : MethodName := { cls := "java/lang/String", name := "length", desc := "()I" }
abbrev my12 : MethodName := { cls := "jdk/internal/util/Preconditions", name := "checkIndex", desc := "(IILjava/util/function/BiFunction;)I" }
abbrev my13 : MethodName := { cls := "java/lang/String", name := "checkIndex", desc := "(II)V" }
abbrev my14 : MethodName := { cls := "java/lang/StringLatin1", name := "charAt", desc := "([BI)C" }
abbrev my15 : MethodName := { cls := "java/lang/StringUTF16", name := "length", desc := "([B)I" }
abbrev my16 : MethodName := { cls := "java/lang/StringUTF16", name := "checkIndex", desc := "(I[B)V" }
abbrev my17 : MethodName := { cls := "java/lang/StringUTF16", name := "charAt", desc := "([BI)C" }
abbrev my18 : MethodName := { cls := "java/lang/String", name := "isLatin1", desc := "()Z" }
abbrev my19 : MethodName := { cls := "java/lang/String", name := "charAt", desc := "(I)C" }
abbrev my20 : MethodName := { cls := "jdk/internal/util/Preconditions", name := "checkFromIndexSize", desc := "(IIILjava/util/function/BiFunction;)I" }
abbrev my21 : MethodName := { cls := "java/lang/String", name := "checkBoundsOffCount", desc := "(III)I" }
abbrev my22 : MethodName := { cls := "java/lang/StringUTF16", name := "checkBoundsOffCount", desc := "(II[B)V" }
abbrev my23 : MethodName := { cls := "jdk/internal/util/Preconditions", name := "checkFromToIndex", desc := "(IIILjava/util/function/BiFunction;)I" }
abbrev my24 : MethodName := { cls := "java/lang/String", name := "checkBoundsBeginEnd", desc := "(III)V" }
abbrev my25 : MethodName := { cls := "java/lang/StringUTF16", name := "checkBoundsBeginEnd", desc := "(II[B)V" }
abbrev my26 : MethodName := { cls := "java/lang/StringUTF16", name := "inflate", desc := "([BI[BII)V" }
abbrev my27 : MethodName := { cls := "java/lang/StringLatin1", name := "inflate", desc := "([BI[BII)V" }
abbrev my28 : MethodName := { cls := "java/lang/StringUTF16", name := "putChars", desc := "([BI[CII)V" }
abbrev my29 : MethodName := { cls := "java/lang/StringUTF16", name := "putCharsSB", desc := "([BI[CII)V" }
abbrev my30 : MethodName := { cls := "java/lang/StringUTF16", name := "putCharSB", desc := "([BII)V" }
abbrev my31 : MethodName := { cls := "java/lang/AbstractStringBuilder", name := "ensureCapacityInternal", desc := "(I)V" }
abbrev my32 : MethodName := { cls := "java/lang/AbstractStringBuilder", name := "isLatin1", desc := "()Z" }
abbrev my33 : MethodName := { cls := "java/lang/AbstractStringBuilder", name := "inflate", desc := "()V" }
abbrev my34 : MethodName := { cls := "java/lang/StringLatin1", name := "canEncode", desc := "(C)Z" }
abbrev my35 : MethodName := { cls := "java/lang/AbstractStringBuilder", name := "append", desc := "(C)Ljava/lang/AbstractStringBuilder;" }
abbrev my36 : MethodName := { cls := "java/lang/StringBuilder", name := "append", desc := "(C)Ljava/lang/StringBuilder;" }
abbrev my37 : MethodName := { cls := "java/lang/AbstractStringBuilder", name := "appendChars", desc := "([CII)V" }
abbrev my38 : MethodName := { cls := "java/lang/AbstractStringBuilder", name := "append", desc := "([CII)Ljava/lang/AbstractStringBuilder;" }
abbrev my39 : MethodName := { cls := "java/lang/StringBuilder", name := "append", desc := "([CII)Ljava/lang/StringBuilder;" }
abbrev my40 : MethodName := { cls := "java/lang/String", name := "getBytes", desc := "([BIB)V" }
abbrev my41 : MethodName := { cls := "java/lang/AbstractStringBuilder", name := "inflateIfNeededFor", desc := "(Ljava/lang/String;)V" }
abbrev my42 : MethodName := { cls := "java/lang/AbstractStringBuilder", name := "putStringAt", desc := "(ILjava/lang/String;)V" }
abbrev my43 : MethodName := { cls := "java/lang/AbstractStringBuilder", name := "append", desc := "(Ljava/lang/String;)Ljava/lang/AbstractStringBuilder;" }
abbrev my44 : MethodName := { cls := "java/lang/StringBuilder", name := "append", desc := "(Ljava/lang/String;)Ljava/lang/StringBuilder;" }
abbrev my45 : MethodName := { cls := "java/lang/AbstractStringBuilder", name := "<init>", desc := "(I)V" }
abbrev my46 : MethodName := { cls := "java/lang/StringBuilder", name := "<init>", desc := "()V" }
abbrev my47 : MethodName := { cls := "com/example/ply3/ply3/TextWriter", name := "builder", desc := "()Ljava/lang/StringBuilder;" }
abbrev my48 : MethodName := { cls := "com/example/ply3/ply3/TextWriter", name := "write", desc := "(I)V" }
abbrev my49 : MethodName := { cls := "com/example/ply3/ply3/TextWriter", name := "write", desc := "([CII)V" }
abbrev my50 : MethodName := { cls := "java/util/Objects", name := "requireNonNull", desc := "(Ljava/lang/Object;Ljava/lang/String;)Ljava/lang/Object;" }
abbrev my51 : MethodName := { cls := "com/example/ply3/ply3/TextWriter", name := "write", desc := "(Ljava/lang/String;)V" }
abbrev my52 : MethodName := { cls := "com/example/ply3/ply3/TextWriterToStringPinLaw", name := "step", desc := "(Lcom/example/ply3/ply3/TextWriter;[CIIIILjava/lang/String;[C)I" }
abbrev my53 : MethodName := { cls := "java/lang/Math", name := "min", desc := "(II)I" }
abbrev my54 : MethodName := { cls := "java/util/Arrays", name := "checkLength", desc := "(II)V" }
abbrev my55 : MethodName := { cls := "java/util/Arrays", name := "copyOfRangeByte", desc := "([BII)[B" }
abbrev my56 : MethodName := { cls := "java/util/Arrays", name := "copyOfRange", desc := "([BII)[B" }
abbrev my57 : MethodName := { cls := "com/example/ply3/ply3/TextWriterToStringPinLaw", name := "str", desc := "(II)Ljava/lang/String;" }
abbrev my58 : MethodName := { cls := "com/example/ply3/ply3/TextWriterToStringPinLaw", name := "pair", desc := "(I)[C" }
abbrev my59 : MethodName := { cls := "java/lang/AbstractStringBuilder", name := "getValue", desc := "()[B" }
abbrev my60 : MethodName := { cls := "java/lang/AbstractStringBuilder", name := "length", desc := "()I" }
abbrev my61 : MethodName := { cls := "java/lang/StringBuilder", name := "length", desc := "()I" }
abbrev my62 : MethodName := { cls := "java/lang/String", name := "<init>", desc := "(Ljava/lang/AbstractStringBuilder;Ljava/lang/Void;)V" }
abbrev my63 : MethodName := { cls := "java/lang/String", name := "<init>", desc := "(Ljava/lang/StringBuilder;)V" }
abbrev my64 : MethodName := { cls := "java/lang/StringBuilder", name := "toString", desc := "()Ljava/lang/String;" }
abbrev my65 : MethodName := { cls := "com/example/ply3/ply3/TextWriter", name := "toString", desc := "()Ljava/lang/String;" }
abbrev my66 : MethodName := { cls := "com/example/ply3/ply3/TextWriterToStringPinLaw", name := "at", desc := "(Ljava/lang/String;[CII)Z" }
abbrev my67 : MethodName := { cls := "java/io/Writer", name := "<init>", desc := "()V" }
abbrev my68 : MethodName := { cls := "com/example/ply3/ply3/TextWriter", name := "<init>", desc := "()V" }
abbrev mz0 : MethodName := { cls := "java/lang/Object", name := "<init>", desc := "()V" }
abbrev mz1 : MethodName := { cls := "java/lang/System", name := "arraycopy", desc := "(Ljava/lang/Object;ILjava/lang/Object;II)V" }
section
variable {a0 : Array Value} {Z : State}
theorem w0 (hw : Hw a0 Z) : (Jvm.Cond.methodLink "com/example/ply3/ply3/TextWriterToStringPinLaw" (7 : Nat) my57).before a0 Z = true := hw _ (List.mem_of_getElem? (i := 0) rfl)
theorem w1 (hw : Hw a0 Z) : (Jvm.Cond.static my57).before a0 Z = true := hw _ (List.mem_of_getElem? (i := 1) rfl)
theorem w2 (hw : Hw a0 Z) : (Jvm.Cond.initialized "com/example/ply3/ply3/TextWriterToStringPinLaw").before a0 Z = true := hw _ (List.mem_of_getElem? (i := 2) rfl)
theorem w3 (hw : Hw a0 Z) : (Jvm.Cond.code my57 method_4_code (3 : Nat) (Option.some (Jvm.ClassFile.FieldType.object "java/lang/String"))).before a0 Z = true := hw _ (List.mem_of_getElem? (i := 3) rfl)
theorem w4 (hw : Hw a0 Z) : (Jvm.Cond.classLink "com/example/ply3/ply3/TextWriterToStringPinLaw" (29 : Nat) "java/lang/String").before a0 Z = true := hw _ (List.mem_of_getElem? (i := 4) rfl)
theorem w5 (hw : Hw a0 Z) : (Jvm.Cond.instantiable "java/lang/String" (4 : Nat)).before a0 Z = true := hw _ (List.mem_of_getElem? (i := 5) rfl)
theorem w6 (hw : Hw a0 Z) : (Jvm.Cond.initialized "java/lang/String").before a0 Z = true := hw _ (List.mem_of_getElem? (i := 6) rfl)
theorem w7 (hw : Hw a0 Z) : (Jvm.Cond.arrayClass Jvm.ClassFile.FieldType.char).before a0 Z = true := hw _ (List.mem_of_getElem? (i := 7) rfl)
theorem w8 (hw : Hw a0 Z) : (Jvm.Cond.methodLink "com/example/ply3/ply3/TextWriterToStringPinLaw" (38 : Nat) my9).before a0 Z = true := hw _ (List.mem_of_getElem? (i := 8) rfl)
theorem w9 (hw : Hw a0 Z) : (Jvm.Cond.instanceMethod my9).before a0 Z = true := hw _ (List.mem_of_getElem? (i := 9) rfl)
theorem w10 (hw : Hw a0 Z) : (Jvm.Cond.code my9 jdk_42_method_3_code (2 : Nat) (Option.none : Option Jvm.ClassFile.FieldType)).before a0 Z = true := hw _ (List.mem_of_getElem? (i := 10) rfl)
theorem w11 (hw : Hw a0 Z) : (Jvm.Cond.methodLink "java/lang/String" (27 : Nat) my8).before a0 Z = true := hw _ (List.mem_of_getElem? (i := 11) rfl)
theorem w12 (hw : Hw a0 Z) : (Jvm.Cond.instanceMethod my8).before a0 Z = true := hw _ (List.mem_of_getElem? (i := 12) rfl)
theorem w14 (hw : Hw a0 Z) : (Jvm.Cond.code my8 jdk_42_method_149_code (6 : Nat) (Option.none : Option Jvm.ClassFile.FieldType)).before a0 Z = true := hw _ (List.mem_of_getElem? (i := 14) rfl)
theorem w15 (hw : Hw a0 Z) : (Jvm.Cond.methodLink "java/lang/String" (1 : Nat) mz0).before a0 Z = true := hw _ (List.mem_of_getElem? (i := 15) rfl)
theorem w16 (hw : Hw a0 Z) : (Jvm.Cond.instanceMethod mz0).before a0 Z = true := hw _ (List.mem_of_getElem? (i := 16) rfl)
theorem w17 (hw : Hw a0 Z) : (Jvm.Cond.code mz0 object_method_1_code (1 : Nat) (Option.none : Option Jvm.ClassFile.FieldType)).before a0 Z = true := hw _ (List.mem_of_getElem? (i := 17) rfl)
theorem w18 (hw : Hw a0 Z) : (Jvm.Cond.stringLink "java/lang/String" (7 : Nat) "").before a0 Z = true := hw _ (List.mem_of_getElem? (i := 18) rfl)
theorem w19 (hw : Hw a0 Z) : (Jvm.Cond.arrayClass Jvm.ClassFile.FieldType.byte).before a0 Z = true := hw _ (List.mem_of_getElem? (i := 19) rfl)
theorem w20 (hw : Hw a0 Z) : (Jvm.Cond.laysFinal "java/lang/String" "java/lang/String" "value" "[B").before a0 Z = true := hw _ (List.mem_of_getElem? (i := 20) rfl)
theorem w21 (hw : Hw a0 Z) : (Jvm.Cond.laysFinal "java/lang/String" "java/lang/String" "coder" "B").before a0 Z = true := hw _ (List.mem_of_getElem? (i := 21) rfl)
theorem w22 (hw : Hw a0 Z) : (Jvm.Cond.soleField "java/lang/String" "value").before a0 Z = true := hw _ (List.mem_of_getElem? (i := 22) rfl)
theorem w23 (hw : Hw a0 Z) : (Jvm.Cond.soleField "java/lang/String" "coder").before a0 Z = true := hw _ (List.mem_of_getElem? (i := 23) rfl)
theorem w24 (hw : Hw a0 Z) : (Jvm.Cond.fieldLink "java/lang/String" (9 : Nat) "java/lang/String" "value" "[B").before a0 Z = true := hw _ (List.mem_of_getElem? (i := 24) rfl)
theorem w25 (hw : Hw a0 Z) : (Jvm.Cond.fieldLink "java/lang/String" (15 : Nat) "java/lang/String" "coder" "B").before a0 Z = true := hw _ (List.mem_of_getElem? (i := 25) rfl)
theorem w26 (hw : Hw a0 Z) : (Jvm.Cond.methodLink "com/example/ply3/ply3/TextWriterToStringPinLaw" (13 : Nat) my58).before a0 Z = true := hw _ (List.mem_of_getElem? (i := 26) rfl)
theorem w27 (hw : Hw a0 Z) : (Jvm.Cond.static my58).before a0 Z = true := hw _ (List.mem_of_getElem? (i := 27) rfl)
theorem w28 (hw : Hw a0 Z) : (Jvm.Cond.code my58 method_3_code (2 : Nat) (Option.some (Jvm.ClassFile.FieldType.array Jvm.ClassFile.FieldType.char))).before a0 Z = true := hw _ (List.mem_of_getElem? (i := 28) rfl)
theorem w29 (hw : Hw a0 Z) : (Jvm.Cond.classLink "com/example/ply3/ply3/TextWriterToStringPinLaw" (17 : Nat) "com/example/ply3/ply3/TextWriter").before a0 Z = true := hw _ (List.mem_of_getElem? (i := 29) rfl)
theorem w30 (hw : Hw a0 Z) : (Jvm.Cond.instantiable "com/example/ply3/ply3/TextWriter" (4 : Nat)).before a0 Z = true := hw _ (List.mem_of_getElem? (i := 30) rfl)
theorem w31 (hw : Hw a0 Z) : (Jvm.Cond.initialized "com/example/ply3/ply3/TextWriter").before a0 Z = true := hw _ (List.mem_of_getElem? (i := 31) rfl)
theorem w32 (hw : Hw a0 Z) : (Jvm.Cond.methodLink "com/example/ply3/ply3/TextWriterToStringPinLaw" (19 : Nat) my68).before a0 Z = true := hw _ (List.mem_of_getElem? (i := 32) rfl)
theorem w33 (hw : Hw a0 Z) : (Jvm.Cond.instanceMethod my68).before a0 Z = true := hw _ (List.mem_of_getElem? (i := 33) rfl)
theorem w34 (hw : Hw a0 Z) : (Jvm.Cond.code my68 prog_33_method_1_code (1 : Nat) (Option.none : Option Jvm.ClassFile.FieldType)).before a0 Z = true := hw _ (List.mem_of_getElem? (i := 34) rfl)
theorem w35 (hw : Hw a0 Z) : (Jvm.Cond.methodLink "com/example/ply3/ply3/TextWriter" (1 : Nat) my67).before a0 Z = true := hw _ (List.mem_of_getElem? (i := 35) rfl)
theorem w36 (hw : Hw a0 Z) : (Jvm.Cond.instanceMethod my67).before a0 Z = true := hw _ (List.mem_of_getElem? (i := 36) rfl)
theorem w38 (hw : Hw a0 Z) : (Jvm.Cond.initialized "java/io/Writer").before a0 Z = true := hw _ (List.mem_of_getElem? (i := 38) rfl)
theorem w39 (hw : Hw a0 Z) : (Jvm.Cond.code my67 jdk_2052_method_2_code (1 : Nat) (Option.none : Option Jvm.ClassFile.FieldType)).before a0 Z = true := hw _ (List.mem_of_getElem? (i := 39) rfl)
theorem w40 (hw : Hw a0 Z) : (Jvm.Cond.methodLink "java/io/Writer" (7 : Nat) mz0).before a0 Z = true := hw _ (List.mem_of_getElem? (i := 40) rfl)
theorem w41 (hw : Hw a0 Z) : (Jvm.Cond.fieldLink "java/io/Writer" (10 : Nat) "java/io/Writer" "lock" "Ljava/lang/Object;").before a0 Z = true := hw _ (List.mem_of_getElem? (i := 41) rfl)
theorem w42 (hw : Hw a0 Z) : (Jvm.Cond.lays "com/example/ply3/ply3/TextWriter" "java/io/Writer" "lock" "Ljava/lang/Object;").before a0 Z = true := hw _ (List.mem_of_getElem? (i := 42) rfl)
theorem w43 (hw : Hw a0 Z) : (Jvm.Cond.methodLink "com/example/ply3/ply3/TextWriterToStringPinLaw" (20 : Nat) my52).before a0 Z = true := hw _ (List.mem_of_getElem? (i := 43) rfl)
theorem w44 (hw : Hw a0 Z) : (Jvm.Cond.static my52).before a0 Z = true := hw _ (List.mem_of_getElem? (i := 44) rfl)
theorem w45 (hw : Hw a0 Z) : (Jvm.Cond.code my52 method_5_code (10 : Nat) (Option.some Jvm.ClassFile.FieldType.int)).before a0 Z = true := hw _ (List.mem_of_getElem? (i := 45) rfl)
theorem w46 (hw : Hw a0 Z) : (Jvm.Cond.methodLink "com/example/ply3/ply3/TextWriterToStringPinLaw" (24 : Nat) my65).before a0 Z = true := hw _ (List.mem_of_getElem? (i := 46) rfl)
theorem w47 (hw : Hw a0 Z) : (Jvm.Cond.declares my65).before a0 Z = true := hw _ (List.mem_of_getElem? (i := 47) rfl)
theorem w48 (hw : Hw a0 Z) : (Jvm.Cond.instanceMethod my65).before a0 Z = true := hw _ (List.mem_of_getElem? (i := 48) rfl)
theorem w49 (hw : Hw a0 Z) : (Jvm.Cond.selects "com/example/ply3/ply3/TextWriter" my65 my65).before a0 Z = true := hw _ (List.mem_of_getElem? (i := 49) rfl)
theorem w50 (hw : Hw a0 Z) : (Jvm.Cond.code my65 prog_33_method_8_code (1 : Nat) (Option.some (Jvm.ClassFile.FieldType.object "java/lang/String"))).before a0 Z = true := hw _ (List.mem_of_getElem? (i := 50) rfl)
theorem w51 (hw : Hw a0 Z) : (Jvm.Cond.fieldLink "com/example/ply3/ply3/TextWriter" (34 : Nat) "com/example/ply3/ply3/TextWriter" "text" "Ljava/lang/StringBuilder;").before a0 Z = true := hw _ (List.mem_of_getElem? (i := 51) rfl)
theorem w52 (hw : Hw a0 Z) : (Jvm.Cond.lays "com/example/ply3/ply3/TextWriter" "com/example/ply3/ply3/TextWriter" "text" "Ljava/lang/StringBuilder;").before a0 Z = true := hw _ (List.mem_of_getElem? (i := 52) rfl)
theorem w53 (hw : Hw a0 Z) : (Jvm.Cond.fieldLink "com/example/ply3/ply3/TextWriter" (30 : Nat) "com/example/ply3/ply3/TextWriter" "whole" "Ljava/lang/String;").before a0 Z = true := hw _ (List.mem_of_getElem? (i := 53) rfl)
theorem w54 (hw : Hw a0 Z) : (Jvm.Cond.lays "com/example/ply3/ply3/TextWriter" "com/example/ply3/ply3/TextWriter" "whole" "Ljava/lang/String;").before a0 Z = true := hw _ (List.mem_of_getElem? (i := 54) rfl)
theorem w55 (hw : Hw a0 Z) : (Jvm.Cond.stringLink "com/example/ply3/ply3/TextWriter" (48 : Nat) "").before a0 Z = true := hw _ (List.mem_of_getElem? (i := 55) rfl)
theorem w56 (hw : Hw a0 Z) : (Jvm.Cond.methodLink "com/example/ply3/ply3/TextWriterToStringPinLaw" (28 : Nat) my11).before a0 Z = true := hw _ (List.mem_of_getElem? (i := 56) rfl)
theorem w57 (hw : Hw a0 Z) : (Jvm.Cond.declares my11).before a0 Z = true := hw _ (List.mem_of_getElem? (i := 57) rfl)
theorem w58 (hw : Hw a0 Z) : (Jvm.Cond.instanceMethod my11).before a0 Z = true := hw _ (List.mem_of_getElem? (i := 58) rfl)
theorem w59 (hw : Hw a0 Z) : (Jvm.Cond.selects "java/lang/String" my11 my11).before a0 Z = true := hw _ (List.mem_of_getElem? (i := 59) rfl)
theorem w60 (hw : Hw a0 Z) : (Jvm.Cond.code my11 jdk_42_method_54_code (1 : Nat) (Option.some Jvm.ClassFile.FieldType.int)).before a0 Z = true := hw _ (List.mem_of_getElem? (i := 60) rfl)
theorem w61 (hw : Hw a0 Z) : (Jvm.Cond.methodLink "java/lang/String" (335 : Nat) my10).before a0 Z = true := hw _ (List.mem_of_getElem? (i := 61) rfl)
theorem w62 (hw : Hw a0 Z) : (Jvm.Cond.declares my10).before a0 Z = true := hw _ (List.mem_of_getElem? (i := 62) rfl)
theorem w63 (hw : Hw a0 Z) : (Jvm.Cond.instanceMethod my10).before a0 Z = true := hw _ (List.mem_of_getElem? (i := 63) rfl)
theorem w64 (hw : Hw a0 Z) : (Jvm.Cond.selects "java/lang/String" my10 my10).before a0 Z = true := hw _ (List.mem_of_getElem? (i := 64) rfl)
theorem w65 (hw : Hw a0 Z) : (Jvm.Cond.code my10 jdk_42_method_152_code (1 : Nat) (Option.some Jvm.ClassFile.FieldType.byte)).before a0 Z = true := hw _ (List.mem_of_getElem? (i := 65) rfl)
theorem w66 (hw : Hw a0 Z) : (Jvm.Cond.fieldLink "java/lang/String" (38 : Nat) "java/lang/String" "COMPACT_STRINGS" "Z").before a0 Z = true := hw _ (List.mem_of_getElem? (i := 66) rfl)
theorem w67 (hw : Hw a0 Z) : (Jvm.Cond.methodLink "com/example/ply3/ply3/TextWriterToStringPinLaw" (34 : Nat) my66).before a0 Z = true := hw _ (List.mem_of_getElem? (i := 67) rfl)
theorem w68 (hw : Hw a0 Z) : (Jvm.Cond.static my66).before a0 Z = true := hw _ (List.mem_of_getElem? (i := 68) rfl)
theorem w69 (hw : Hw a0 Z) : (Jvm.Cond.code my66 method_6_code (4 : Nat) (Option.some Jvm.ClassFile.FieldType.boolean)).before a0 Z = true := hw _ (List.mem_of_getElem? (i := 69) rfl)
theorem w70 (hw : Hw a0 Z) : (Jvm.Cond.methodLink "java/lang/String" (177 : Nat) my6).before a0 Z = true := hw _ (List.mem_of_getElem? (i := 70) rfl)
theorem w71 (hw : Hw a0 Z) : (Jvm.Cond.static my6).before a0 Z = true := hw _ (List.mem_of_getElem? (i := 71) rfl)
theorem w72 (hw : Hw a0 Z) : (Jvm.Cond.initialized "java/lang/StringUTF16").before a0 Z = true := hw _ (List.mem_of_getElem? (i := 72) rfl)
theorem w73 (hw : Hw a0 Z) : (Jvm.Cond.code my6 jdk_52_method_16_code (6 : Nat) (Option.some (Jvm.ClassFile.FieldType.array Jvm.ClassFile.FieldType.byte))).before a0 Z = true := hw _ (List.mem_of_getElem? (i := 73) rfl)
theorem w74 (hw : Hw a0 Z) : (Jvm.Cond.methodLink "java/lang/StringUTF16" (115 : Nat) my0).before a0 Z = true := hw _ (List.mem_of_getElem? (i := 74) rfl)
theorem w75 (hw : Hw a0 Z) : (Jvm.Cond.static my0).before a0 Z = true := hw _ (List.mem_of_getElem? (i := 75) rfl)
theorem w76 (hw : Hw a0 Z) : (Jvm.Cond.code my0 jdk_52_method_21_code (7 : Nat) (Option.some Jvm.ClassFile.FieldType.int)).before a0 Z = true := hw _ (List.mem_of_getElem? (i := 76) rfl)
theorem w77 (hw : Hw a0 Z) : (Jvm.Cond.methodLink "java/lang/String" (47 : Nat) my7).before a0 Z = true := hw _ (List.mem_of_getElem? (i := 77) rfl)
theorem w78 (hw : Hw a0 Z) : (Jvm.Cond.static my7).before a0 Z = true := hw _ (List.mem_of_getElem? (i := 78) rfl)
theorem w79 (hw : Hw a0 Z) : (Jvm.Cond.code my7 jdk_52_method_15_code (2 : Nat) (Option.some Jvm.ClassFile.FieldType.byte)).before a0 Z = true := hw _ (List.mem_of_getElem? (i := 79) rfl)
theorem w80 (hw : Hw a0 Z) : (Jvm.Cond.methodLink "com/example/ply3/ply3/TextWriterToStringPinLaw" (48 : Nat) my49).before a0 Z = true := hw _ (List.mem_of_getElem? (i := 80) rfl)
theorem w81 (hw : Hw a0 Z) : (Jvm.Cond.declares my49).before a0 Z = true := hw _ (List.mem_of_getElem? (i := 81) rfl)
theorem w82 (hw : Hw a0 Z) : (Jvm.Cond.instanceMethod my49).before a0 Z = true := hw _ (List.mem_of_getElem? (i := 82) rfl)
theorem w83 (hw : Hw a0 Z) : (Jvm.Cond.selects "com/example/ply3/ply3/TextWriter" my49 my49).before a0 Z = true := hw _ (List.mem_of_getElem? (i := 83) rfl)
theorem w84 (hw : Hw a0 Z) : (Jvm.Cond.code my49 prog_33_method_3_code (4 : Nat) (Option.none : Option Jvm.ClassFile.FieldType)).before a0 Z = true := hw _ (List.mem_of_getElem? (i := 84) rfl)
theorem w85 (hw : Hw a0 Z) : (Jvm.Cond.methodLink "com/example/ply3/ply3/TextWriter" (7 : Nat) my47).before a0 Z = true := hw _ (List.mem_of_getElem? (i := 85) rfl)
theorem w86 (hw : Hw a0 Z) : (Jvm.Cond.instanceMethod my47).before a0 Z = true := hw _ (List.mem_of_getElem? (i := 86) rfl)
theorem w87 (hw : Hw a0 Z) : (Jvm.Cond.privateMethod my47).before a0 Z = true := hw _ (List.mem_of_getElem? (i := 87) rfl)
theorem w88 (hw : Hw a0 Z) : (Jvm.Cond.code my47 prog_33_method_9_code (1 : Nat) (Option.some (Jvm.ClassFile.FieldType.object "java/lang/StringBuilder"))).before a0 Z = true := hw _ (List.mem_of_getElem? (i := 88) rfl)
theorem w89 (hw : Hw a0 Z) : (Jvm.Cond.classLink "com/example/ply3/ply3/TextWriter" (14 : Nat) "java/lang/StringBuilder").before a0 Z = true := hw _ (List.mem_of_getElem? (i := 89) rfl)
theorem w90 (hw : Hw a0 Z) : (Jvm.Cond.instantiable "java/lang/StringBuilder" (4 : Nat)).before a0 Z = true := hw _ (List.mem_of_getElem? (i := 90) rfl)
theorem w91 (hw : Hw a0 Z) : (Jvm.Cond.initialized "java/lang/StringBuilder").before a0 Z = true := hw _ (List.mem_of_getElem? (i := 91) rfl)
theorem w92 (hw : Hw a0 Z) : (Jvm.Cond.methodLink "com/example/ply3/ply3/TextWriter" (50 : Nat) my46).before a0 Z = true := hw _ (List.mem_of_getElem? (i := 92) rfl)
theorem w93 (hw : Hw a0 Z) : (Jvm.Cond.instanceMethod my46).before a0 Z = true := hw _ (List.mem_of_getElem? (i := 93) rfl)
theorem w94 (hw : Hw a0 Z) : (Jvm.Cond.code my46 jdk_67_method_1_code (1 : Nat) (Option.none : Option Jvm.ClassFile.FieldType)).before a0 Z = true := hw _ (List.mem_of_getElem? (i := 94) rfl)
theorem w95 (hw : Hw a0 Z) : (Jvm.Cond.methodLink "java/lang/StringBuilder" (1 : Nat) my45).before a0 Z = true := hw _ (List.mem_of_getElem? (i := 95) rfl)
theorem w96 (hw : Hw a0 Z) : (Jvm.Cond.instanceMethod my45).before a0 Z = true := hw _ (List.mem_of_getElem? (i := 96) rfl)
theorem w99 (hw : Hw a0 Z) : (Jvm.Cond.initialized "java/lang/AbstractStringBuilder").before a0 Z = true := hw _ (List.mem_of_getElem? (i := 99) rfl)
theorem w100 (hw : Hw a0 Z) : (Jvm.Cond.code my45 jdk_68_method_2_code (2 : Nat) (Option.none : Option Jvm.ClassFile.FieldType)).before a0 Z = true := hw _ (List.mem_of_getElem? (i := 100) rfl)
theorem w101 (hw : Hw a0 Z) : (Jvm.Cond.methodLink "java/lang/AbstractStringBuilder" (3 : Nat) mz0).before a0 Z = true := hw _ (List.mem_of_getElem? (i := 101) rfl)
theorem w102 (hw : Hw a0 Z) : (Jvm.Cond.fieldLink "java/lang/AbstractStringBuilder" (18 : Nat) "java/lang/String" "COMPACT_STRINGS" "Z").before a0 Z = true := hw _ (List.mem_of_getElem? (i := 102) rfl)
theorem w103 (hw : Hw a0 Z) : (Jvm.Cond.fieldLink "java/lang/AbstractStringBuilder" (15 : Nat) "java/lang/AbstractStringBuilder" "value" "[B").before a0 Z = true := hw _ (List.mem_of_getElem? (i := 103) rfl)
theorem w104 (hw : Hw a0 Z) : (Jvm.Cond.lays "java/lang/StringBuilder" "java/lang/AbstractStringBuilder" "value" "[B").before a0 Z = true := hw _ (List.mem_of_getElem? (i := 104) rfl)
theorem w105 (hw : Hw a0 Z) : (Jvm.Cond.fieldLink "java/lang/AbstractStringBuilder" (22 : Nat) "java/lang/AbstractStringBuilder" "coder" "B").before a0 Z = true := hw _ (List.mem_of_getElem? (i := 105) rfl)
theorem w106 (hw : Hw a0 Z) : (Jvm.Cond.lays "java/lang/StringBuilder" "java/lang/AbstractStringBuilder" "coder" "B").before a0 Z = true := hw _ (List.mem_of_getElem? (i := 106) rfl)
theorem w107 (hw : Hw a0 Z) : (Jvm.Cond.methodLink "com/example/ply3/ply3/TextWriter" (19 : Nat) my39).before a0 Z = true := hw _ (List.mem_of_getElem? (i := 107) rfl)
theorem w108 (hw : Hw a0 Z) : (Jvm.Cond.declares my39).before a0 Z = true := hw _ (List.mem_of_getElem? (i := 108) rfl)
theorem w109 (hw : Hw a0 Z) : (Jvm.Cond.instanceMethod my39).before a0 Z = true := hw _ (List.mem_of_getElem? (i := 109) rfl)
theorem w110 (hw : Hw a0 Z) : (Jvm.Cond.selects "java/lang/StringBuilder" my39 my39).before a0 Z = true := hw _ (List.mem_of_getElem? (i := 110) rfl)
theorem w111 (hw : Hw a0 Z) : (Jvm.Cond.code my39 jdk_67_method_12_code (4 : Nat) (Option.some (Jvm.ClassFile.FieldType.object "java/lang/StringBuilder"))).before a0 Z = true := hw _ (List.mem_of_getElem? (i := 111) rfl)
theorem w112 (hw : Hw a0 Z) : (Jvm.Cond.methodLink "java/lang/StringBuilder" (44 : Nat) my38).before a0 Z = true := hw _ (List.mem_of_getElem? (i := 112) rfl)
theorem w113 (hw : Hw a0 Z) : (Jvm.Cond.instanceMethod my38).before a0 Z = true := hw _ (List.mem_of_getElem? (i := 113) rfl)
theorem w114 (hw : Hw a0 Z) : (Jvm.Cond.superclass "java/lang/StringBuilder" "java/lang/AbstractStringBuilder").before a0 Z = true := hw _ (List.mem_of_getElem? (i := 114) rfl)
theorem w116 (hw : Hw a0 Z) : (Jvm.Cond.code my38 jdk_68_method_29_code (5 : Nat) (Option.some (Jvm.ClassFile.FieldType.object "java/lang/AbstractStringBuilder"))).before a0 Z = true := hw _ (List.mem_of_getElem? (i := 116) rfl)
theorem w117 (hw : Hw a0 Z) : (Jvm.Cond.fieldLink "java/lang/AbstractStringBuilder" (183 : Nat) "jdk/internal/util/Preconditions" "IOOBE_FORMATTER" "Ljava/util/function/BiFunction;").before a0 Z = true := hw _ (List.mem_of_getElem? (i := 117) rfl)
theorem w118 (hw : Hw a0 Z) : (Jvm.Cond.initialized "jdk/internal/util/Preconditions").before a0 Z = true := hw _ (List.mem_of_getElem? (i := 118) rfl)
theorem w119 (hw : Hw a0 Z) : (Jvm.Cond.laysStatic "jdk/internal/util/Preconditions" "IOOBE_FORMATTER" "Ljava/util/function/BiFunction;").before a0 Z = true := hw _ (List.mem_of_getElem? (i := 119) rfl)
theorem w120 (hw : Hw a0 Z) : (Jvm.Cond.methodLink "java/lang/AbstractStringBuilder" (161 : Nat) my23).before a0 Z = true := hw _ (List.mem_of_getElem? (i := 120) rfl)
theorem w121 (hw : Hw a0 Z) : (Jvm.Cond.static my23).before a0 Z = true := hw _ (List.mem_of_getElem? (i := 121) rfl)
theorem w122 (hw : Hw a0 Z) : (Jvm.Cond.code my23 jdk_41_method_12_code (4 : Nat) (Option.some Jvm.ClassFile.FieldType.int)).before a0 Z = true := hw _ (List.mem_of_getElem? (i := 122) rfl)
theorem w123 (hw : Hw a0 Z) : (Jvm.Cond.fieldLink "java/lang/AbstractStringBuilder" (79 : Nat) "java/lang/AbstractStringBuilder" "count" "I").before a0 Z = true := hw _ (List.mem_of_getElem? (i := 123) rfl)
theorem w124 (hw : Hw a0 Z) : (Jvm.Cond.lays "java/lang/StringBuilder" "java/lang/AbstractStringBuilder" "count" "I").before a0 Z = true := hw _ (List.mem_of_getElem? (i := 124) rfl)
theorem w125 (hw : Hw a0 Z) : (Jvm.Cond.methodLink "java/lang/AbstractStringBuilder" (100 : Nat) my31).before a0 Z = true := hw _ (List.mem_of_getElem? (i := 125) rfl)
theorem w126 (hw : Hw a0 Z) : (Jvm.Cond.instanceMethod my31).before a0 Z = true := hw _ (List.mem_of_getElem? (i := 126) rfl)
theorem w127 (hw : Hw a0 Z) : (Jvm.Cond.privateMethod my31).before a0 Z = true := hw _ (List.mem_of_getElem? (i := 127) rfl)
theorem w128 (hw : Hw a0 Z) : (Jvm.Cond.selects "java/lang/StringBuilder" my31 my31).before a0 Z = true := hw _ (List.mem_of_getElem? (i := 128) rfl)
theorem w129 (hw : Hw a0 Z) : (Jvm.Cond.code my31 jdk_68_method_9_code (3 : Nat) (Option.none : Option Jvm.ClassFile.FieldType)).before a0 Z = true := hw _ (List.mem_of_getElem? (i := 129) rfl)
theorem w130 (hw : Hw a0 Z) : (Jvm.Cond.methodLink "java/lang/AbstractStringBuilder" (239 : Nat) my37).before a0 Z = true := hw _ (List.mem_of_getElem? (i := 130) rfl)
theorem w131 (hw : Hw a0 Z) : (Jvm.Cond.instanceMethod my37).before a0 Z = true := hw _ (List.mem_of_getElem? (i := 131) rfl)
theorem w132 (hw : Hw a0 Z) : (Jvm.Cond.privateMethod my37).before a0 Z = true := hw _ (List.mem_of_getElem? (i := 132) rfl)
theorem w133 (hw : Hw a0 Z) : (Jvm.Cond.selects "java/lang/StringBuilder" my37 my37).before a0 Z = true := hw _ (List.mem_of_getElem? (i := 133) rfl)
theorem w134 (hw : Hw a0 Z) : (Jvm.Cond.code my37 jdk_68_method_74_code (9 : Nat) (Option.none : Option Jvm.ClassFile.FieldType)).before a0 Z = true := hw _ (List.mem_of_getElem? (i := 134) rfl)
theorem w135 (hw : Hw a0 Z) : (Jvm.Cond.methodLink "java/lang/AbstractStringBuilder" (83 : Nat) my32).before a0 Z = true := hw _ (List.mem_of_getElem? (i := 135) rfl)
theorem w136 (hw : Hw a0 Z) : (Jvm.Cond.declares my32).before a0 Z = true := hw _ (List.mem_of_getElem? (i := 136) rfl)
theorem w137 (hw : Hw a0 Z) : (Jvm.Cond.instanceMethod my32).before a0 Z = true := hw _ (List.mem_of_getElem? (i := 137) rfl)
theorem w138 (hw : Hw a0 Z) : (Jvm.Cond.selects "java/lang/StringBuilder" my32 my32).before a0 Z = true := hw _ (List.mem_of_getElem? (i := 138) rfl)
theorem w139 (hw : Hw a0 Z) : (Jvm.Cond.code my32 jdk_68_method_68_code (1 : Nat) (Option.some Jvm.ClassFile.FieldType.boolean)).before a0 Z = true := hw _ (List.mem_of_getElem? (i := 139) rfl)
theorem w140 (hw : Hw a0 Z) : (Jvm.Cond.methodLink "java/lang/AbstractStringBuilder" (191 : Nat) my34).before a0 Z = true := hw _ (List.mem_of_getElem? (i := 140) rfl)
theorem w141 (hw : Hw a0 Z) : (Jvm.Cond.static my34).before a0 Z = true := hw _ (List.mem_of_getElem? (i := 141) rfl)
theorem w142 (hw : Hw a0 Z) : (Jvm.Cond.initialized "java/lang/StringLatin1").before a0 Z = true := hw _ (List.mem_of_getElem? (i := 142) rfl)
theorem w143 (hw : Hw a0 Z) : (Jvm.Cond.code my34 jdk_43_method_3_code (1 : Nat) (Option.some Jvm.ClassFile.FieldType.boolean)).before a0 Z = true := hw _ (List.mem_of_getElem? (i := 143) rfl)
theorem w144 (hw : Hw a0 Z) : (Jvm.Cond.methodLink "com/example/ply3/ply3/TextWriter" (44 : Nat) my64).before a0 Z = true := hw _ (List.mem_of_getElem? (i := 144) rfl)
theorem w145 (hw : Hw a0 Z) : (Jvm.Cond.declares my64).before a0 Z = true := hw _ (List.mem_of_getElem? (i := 145) rfl)
theorem w146 (hw : Hw a0 Z) : (Jvm.Cond.instanceMethod my64).before a0 Z = true := hw _ (List.mem_of_getElem? (i := 146) rfl)
theorem w147 (hw : Hw a0 Z) : (Jvm.Cond.selects "java/lang/StringBuilder" my64 my64).before a0 Z = true := hw _ (List.mem_of_getElem? (i := 147) rfl)
theorem w148 (hw : Hw a0 Z) : (Jvm.Cond.code my64 jdk_67_method_42_code (1 : Nat) (Option.some (Jvm.ClassFile.FieldType.object "java/lang/String"))).before a0 Z = true := hw _ (List.mem_of_getElem? (i := 148) rfl)
theorem w149 (hw : Hw a0 Z) : (Jvm.Cond.classLink "java/lang/StringBuilder" (18 : Nat) "java/lang/String").before a0 Z = true := hw _ (List.mem_of_getElem? (i := 149) rfl)
theorem w150 (hw : Hw a0 Z) : (Jvm.Cond.methodLink "java/lang/StringBuilder" (137 : Nat) my63).before a0 Z = true := hw _ (List.mem_of_getElem? (i := 150) rfl)
theorem w151 (hw : Hw a0 Z) : (Jvm.Cond.instanceMethod my63).before a0 Z = true := hw _ (List.mem_of_getElem? (i := 151) rfl)
theorem w152 (hw : Hw a0 Z) : (Jvm.Cond.code my63 jdk_42_method_53_code (2 : Nat) (Option.none : Option Jvm.ClassFile.FieldType)).before a0 Z = true := hw _ (List.mem_of_getElem? (i := 152) rfl)
theorem w153 (hw : Hw a0 Z) : (Jvm.Cond.methodLink "java/lang/String" (489 : Nat) my62).before a0 Z = true := hw _ (List.mem_of_getElem? (i := 153) rfl)
theorem w154 (hw : Hw a0 Z) : (Jvm.Cond.instanceMethod my62).before a0 Z = true := hw _ (List.mem_of_getElem? (i := 154) rfl)
theorem w155 (hw : Hw a0 Z) : (Jvm.Cond.code my62 jdk_42_method_150_code (5 : Nat) (Option.none : Option Jvm.ClassFile.FieldType)).before a0 Z = true := hw _ (List.mem_of_getElem? (i := 155) rfl)
theorem w156 (hw : Hw a0 Z) : (Jvm.Cond.methodLink "java/lang/String" (552 : Nat) my59).before a0 Z = true := hw _ (List.mem_of_getElem? (i := 156) rfl)
theorem w157 (hw : Hw a0 Z) : (Jvm.Cond.declares my59).before a0 Z = true := hw _ (List.mem_of_getElem? (i := 157) rfl)
theorem w158 (hw : Hw a0 Z) : (Jvm.Cond.instanceMethod my59).before a0 Z = true := hw _ (List.mem_of_getElem? (i := 158) rfl)
theorem w159 (hw : Hw a0 Z) : (Jvm.Cond.selects "java/lang/StringBuilder" my59 my59).before a0 Z = true := hw _ (List.mem_of_getElem? (i := 159) rfl)
theorem w160 (hw : Hw a0 Z) : (Jvm.Cond.code my59 jdk_68_method_64_code (1 : Nat) (Option.some (Jvm.ClassFile.FieldType.array Jvm.ClassFile.FieldType.byte))).before a0 Z = true := hw _ (List.mem_of_getElem? (i := 160) rfl)
theorem w161 (hw : Hw a0 Z) : (Jvm.Cond.methodLink "java/lang/String" (549 : Nat) my60).before a0 Z = true := hw _ (List.mem_of_getElem? (i := 161) rfl)
theorem w162 (hw : Hw a0 Z) : (Jvm.Cond.declares my60).before a0 Z = true := hw _ (List.mem_of_getElem? (i := 162) rfl)
theorem w163 (hw : Hw a0 Z) : (Jvm.Cond.instanceMethod my60).before a0 Z = true := hw _ (List.mem_of_getElem? (i := 163) rfl)
theorem w164 (hw : Hw a0 Z) : (Jvm.Cond.selects "java/lang/StringBuilder" my60 my61).before a0 Z = true := hw _ (List.mem_of_getElem? (i := 164) rfl)
theorem w165 (hw : Hw a0 Z) : (Jvm.Cond.instanceMethod my61).before a0 Z = true := hw _ (List.mem_of_getElem? (i := 165) rfl)
theorem w166 (hw : Hw a0 Z) : (Jvm.Cond.code my61 jdk_67_method_93_code (1 : Nat) (Option.some Jvm.ClassFile.FieldType.int)).before a0 Z = true := hw _ (List.mem_of_getElem? (i := 166) rfl)
theorem w167 (hw : Hw a0 Z) : (Jvm.Cond.methodLink "java/lang/StringBuilder" (343 : Nat) my60).before a0 Z = true := hw _ (List.mem_of_getElem? (i := 167) rfl)
theorem w168 (hw : Hw a0 Z) : (Jvm.Cond.code my60 jdk_68_method_6_code (1 : Nat) (Option.some Jvm.ClassFile.FieldType.int)).before a0 Z = true := hw _ (List.mem_of_getElem? (i := 168) rfl)
theorem w169 (hw : Hw a0 Z) : (Jvm.Cond.methodLink "java/lang/String" (1047 : Nat) my32).before a0 Z = true := hw _ (List.mem_of_getElem? (i := 169) rfl)
theorem w170 (hw : Hw a0 Z) : (Jvm.Cond.methodLink "java/lang/String" (54 : Nat) my56).before a0 Z = true := hw _ (List.mem_of_getElem? (i := 170) rfl)
theorem w171 (hw : Hw a0 Z) : (Jvm.Cond.static my56).before a0 Z = true := hw _ (List.mem_of_getElem? (i := 171) rfl)
theorem w172 (hw : Hw a0 Z) : (Jvm.Cond.initialized "java/util/Arrays").before a0 Z = true := hw _ (List.mem_of_getElem? (i := 172) rfl)
theorem w173 (hw : Hw a0 Z) : (Jvm.Cond.code my56 jdk_65_method_132_code (3 : Nat) (Option.some (Jvm.ClassFile.FieldType.array Jvm.ClassFile.FieldType.byte))).before a0 Z = true := hw _ (List.mem_of_getElem? (i := 173) rfl)
theorem w174 (hw : Hw a0 Z) : (Jvm.Cond.methodLink "java/util/Arrays" (339 : Nat) my55).before a0 Z = true := hw _ (List.mem_of_getElem? (i := 174) rfl)
theorem w175 (hw : Hw a0 Z) : (Jvm.Cond.static my55).before a0 Z = true := hw _ (List.mem_of_getElem? (i := 175) rfl)
theorem w176 (hw : Hw a0 Z) : (Jvm.Cond.code my55 jdk_65_method_133_code (5 : Nat) (Option.some (Jvm.ClassFile.FieldType.array Jvm.ClassFile.FieldType.byte))).before a0 Z = true := hw _ (List.mem_of_getElem? (i := 176) rfl)
theorem w177 (hw : Hw a0 Z) : (Jvm.Cond.methodLink "java/util/Arrays" (343 : Nat) my54).before a0 Z = true := hw _ (List.mem_of_getElem? (i := 177) rfl)
theorem w178 (hw : Hw a0 Z) : (Jvm.Cond.static my54).before a0 Z = true := hw _ (List.mem_of_getElem? (i := 178) rfl)
theorem w179 (hw : Hw a0 Z) : (Jvm.Cond.code my54 jdk_65_method_131_code (2 : Nat) (Option.none : Option Jvm.ClassFile.FieldType)).before a0 Z = true := hw _ (List.mem_of_getElem? (i := 179) rfl)
theorem w180 (hw : Hw a0 Z) : (Jvm.Cond.methodLink "java/util/Arrays" (304 : Nat) my53).before a0 Z = true := hw _ (List.mem_of_getElem? (i := 180) rfl)
theorem w181 (hw : Hw a0 Z) : (Jvm.Cond.static my53).before a0 Z = true := hw _ (List.mem_of_getElem? (i := 181) rfl)
theorem w182 (hw : Hw a0 Z) : (Jvm.Cond.initialized "java/lang/Math").before a0 Z = true := hw _ (List.mem_of_getElem? (i := 182) rfl)
theorem w183 (hw : Hw a0 Z) : (Jvm.Cond.code my53 jdk_29_method_69_code (2 : Nat) (Option.some Jvm.ClassFile.FieldType.int)).before a0 Z = true := hw _ (List.mem_of_getElem? (i := 183) rfl)
theorem w184 (hw : Hw a0 Z) : (Jvm.Cond.methodLink "java/util/Arrays" (150 : Nat) mz1).before a0 Z = true := hw _ (List.mem_of_getElem? (i := 184) rfl)
theorem w185 (hw : Hw a0 Z) : (Jvm.Cond.static mz1).before a0 Z = true := hw _ (List.mem_of_getElem? (i := 185) rfl)
theorem w186 (hw : Hw a0 Z) : (Jvm.Cond.initialized "java/lang/System").before a0 Z = true := hw _ (List.mem_of_getElem? (i := 186) rfl)
theorem w187 (hw : Hw a0 Z) : (Jvm.Cond.native mz1).before a0 Z = true := hw _ (List.mem_of_getElem? (i := 187) rfl)
theorem w188 (hw : Hw a0 Z) : (Jvm.Cond.methodLink "com/example/ply3/ply3/TextWriterToStringPinLaw" (51 : Nat) my19).before a0 Z = true := hw _ (List.mem_of_getElem? (i := 188) rfl)
theorem w189 (hw : Hw a0 Z) : (Jvm.Cond.declares my19).before a0 Z = true := hw _ (List.mem_of_getElem? (i := 189) rfl)
theorem w190 (hw : Hw a0 Z) : (Jvm.Cond.instanceMethod my19).before a0 Z = true := hw _ (List.mem_of_getElem? (i := 190) rfl)
theorem w191 (hw : Hw a0 Z) : (Jvm.Cond.selects "java/lang/String" my19 my19).before a0 Z = true := hw _ (List.mem_of_getElem? (i := 191) rfl)
theorem w192 (hw : Hw a0 Z) : (Jvm.Cond.code my19 jdk_42_method_56_code (2 : Nat) (Option.some Jvm.ClassFile.FieldType.char)).before a0 Z = true := hw _ (List.mem_of_getElem? (i := 192) rfl)
theorem w193 (hw : Hw a0 Z) : (Jvm.Cond.methodLink "java/lang/String" (492 : Nat) my18).before a0 Z = true := hw _ (List.mem_of_getElem? (i := 193) rfl)
theorem w194 (hw : Hw a0 Z) : (Jvm.Cond.declares my18).before a0 Z = true := hw _ (List.mem_of_getElem? (i := 194) rfl)
theorem w195 (hw : Hw a0 Z) : (Jvm.Cond.instanceMethod my18).before a0 Z = true := hw _ (List.mem_of_getElem? (i := 195) rfl)
theorem w196 (hw : Hw a0 Z) : (Jvm.Cond.selects "java/lang/String" my18 my18).before a0 Z = true := hw _ (List.mem_of_getElem? (i := 196) rfl)
theorem w197 (hw : Hw a0 Z) : (Jvm.Cond.code my18 jdk_42_method_154_code (1 : Nat) (Option.some Jvm.ClassFile.FieldType.boolean)).before a0 Z = true := hw _ (List.mem_of_getElem? (i := 197) rfl)
theorem w198 (hw : Hw a0 Z) : (Jvm.Cond.methodLink "java/lang/String" (495 : Nat) my14).before a0 Z = true := hw _ (List.mem_of_getElem? (i := 198) rfl)
theorem w199 (hw : Hw a0 Z) : (Jvm.Cond.static my14).before a0 Z = true := hw _ (List.mem_of_getElem? (i := 199) rfl)
theorem w200 (hw : Hw a0 Z) : (Jvm.Cond.code my14 jdk_43_method_2_code (2 : Nat) (Option.some Jvm.ClassFile.FieldType.char)).before a0 Z = true := hw _ (List.mem_of_getElem? (i := 200) rfl)
theorem w201 (hw : Hw a0 Z) : (Jvm.Cond.methodLink "java/lang/StringLatin1" (9 : Nat) my13).before a0 Z = true := hw _ (List.mem_of_getElem? (i := 201) rfl)
theorem w202 (hw : Hw a0 Z) : (Jvm.Cond.static my13).before a0 Z = true := hw _ (List.mem_of_getElem? (i := 202) rfl)
theorem w203 (hw : Hw a0 Z) : (Jvm.Cond.code my13 jdk_42_method_155_code (2 : Nat) (Option.none : Option Jvm.ClassFile.FieldType)).before a0 Z = true := hw _ (List.mem_of_getElem? (i := 203) rfl)
theorem w204 (hw : Hw a0 Z) : (Jvm.Cond.fieldLink "java/lang/String" (1053 : Nat) "jdk/internal/util/Preconditions" "SIOOBE_FORMATTER" "Ljava/util/function/BiFunction;").before a0 Z = true := hw _ (List.mem_of_getElem? (i := 204) rfl)
theorem w205 (hw : Hw a0 Z) : (Jvm.Cond.methodLink "java/lang/String" (1059 : Nat) my12).before a0 Z = true := hw _ (List.mem_of_getElem? (i := 205) rfl)
theorem w206 (hw : Hw a0 Z) : (Jvm.Cond.static my12).before a0 Z = true := hw _ (List.mem_of_getElem? (i := 206) rfl)
theorem w207 (hw : Hw a0 Z) : (Jvm.Cond.code my12 jdk_41_method_11_code (3 : Nat) (Option.some Jvm.ClassFile.FieldType.int)).before a0 Z = true := hw _ (List.mem_of_getElem? (i := 207) rfl)
theorem w208 (hw : Hw a0 Z) : (Jvm.Cond.methodLink "java/lang/StringUTF16" (119 : Nat) my5).before a0 Z = true := hw _ (List.mem_of_getElem? (i := 208) rfl)
theorem w209 (hw : Hw a0 Z) : (Jvm.Cond.static my5).before a0 Z = true := hw _ (List.mem_of_getElem? (i := 209) rfl)
theorem w210 (hw : Hw a0 Z) : (Jvm.Cond.code my5 jdk_52_method_14_code (5 : Nat) (Option.some (Jvm.ClassFile.FieldType.array Jvm.ClassFile.FieldType.byte))).before a0 Z = true := hw _ (List.mem_of_getElem? (i := 210) rfl)
theorem w211 (hw : Hw a0 Z) : (Jvm.Cond.methodLink "java/lang/StringUTF16" (107 : Nat) my2).before a0 Z = true := hw _ (List.mem_of_getElem? (i := 211) rfl)
theorem w212 (hw : Hw a0 Z) : (Jvm.Cond.static my2).before a0 Z = true := hw _ (List.mem_of_getElem? (i := 212) rfl)
theorem w213 (hw : Hw a0 Z) : (Jvm.Cond.code my2 jdk_52_method_2_code (1 : Nat) (Option.some (Jvm.ClassFile.FieldType.array Jvm.ClassFile.FieldType.byte))).before a0 Z = true := hw _ (List.mem_of_getElem? (i := 213) rfl)
theorem w214 (hw : Hw a0 Z) : (Jvm.Cond.methodLink "java/lang/StringUTF16" (11 : Nat) my1).before a0 Z = true := hw _ (List.mem_of_getElem? (i := 214) rfl)
theorem w215 (hw : Hw a0 Z) : (Jvm.Cond.static my1).before a0 Z = true := hw _ (List.mem_of_getElem? (i := 215) rfl)
theorem w216 (hw : Hw a0 Z) : (Jvm.Cond.code my1 jdk_52_method_3_code (1 : Nat) (Option.some Jvm.ClassFile.FieldType.int)).before a0 Z = true := hw _ (List.mem_of_getElem? (i := 216) rfl)
theorem w217 (hw : Hw a0 Z) : (Jvm.Cond.constant "java/lang/StringUTF16" (20 : Nat) (1073741823 : Int32)).before a0 Z = true := hw _ (List.mem_of_getElem? (i := 217) rfl)
theorem w218 (hw : Hw a0 Z) : (Jvm.Cond.methodLink "java/lang/StringUTF16" (111 : Nat) my3).before a0 Z = true := hw _ (List.mem_of_getElem? (i := 218) rfl)
theorem w219 (hw : Hw a0 Z) : (Jvm.Cond.static my3).before a0 Z = true := hw _ (List.mem_of_getElem? (i := 219) rfl)
theorem w220 (hw : Hw a0 Z) : (Jvm.Cond.code my3 jdk_52_method_4_code (3 : Nat) (Option.none : Option Jvm.ClassFile.FieldType)).before a0 Z = true := hw _ (List.mem_of_getElem? (i := 220) rfl)
theorem w221 (hw : Hw a0 Z) : (Jvm.Cond.fieldLink "java/lang/StringUTF16" (44 : Nat) "java/lang/StringUTF16" "$assertionsDisabled" "Z").before a0 Z = true := hw _ (List.mem_of_getElem? (i := 221) rfl)
theorem w222 (hw : Hw a0 Z) : (Jvm.Cond.fieldLink "java/lang/StringUTF16" (59 : Nat) "java/lang/StringUTF16" "HI_BYTE_SHIFT" "I").before a0 Z = true := hw _ (List.mem_of_getElem? (i := 222) rfl)
theorem w223 (hw : Hw a0 Z) : (Jvm.Cond.fieldLink "java/lang/StringUTF16" (63 : Nat) "java/lang/StringUTF16" "LO_BYTE_SHIFT" "I").before a0 Z = true := hw _ (List.mem_of_getElem? (i := 223) rfl)
theorem w224 (hw : Hw a0 Z) : (Jvm.Cond.methodLink "java/lang/StringUTF16" (71 : Nat) my4).before a0 Z = true := hw _ (List.mem_of_getElem? (i := 224) rfl)
theorem w225 (hw : Hw a0 Z) : (Jvm.Cond.static my4).before a0 Z = true := hw _ (List.mem_of_getElem? (i := 225) rfl)
theorem w226 (hw : Hw a0 Z) : (Jvm.Cond.code my4 jdk_52_method_5_code (2 : Nat) (Option.some Jvm.ClassFile.FieldType.char)).before a0 Z = true := hw _ (List.mem_of_getElem? (i := 226) rfl)
theorem w227 (hw : Hw a0 Z) : (Jvm.Cond.methodLink "com/example/ply3/ply3/TextWriterToStringPinLaw" (45 : Nat) my51).before a0 Z = true := hw _ (List.mem_of_getElem? (i := 227) rfl)
theorem w228 (hw : Hw a0 Z) : (Jvm.Cond.declares my51).before a0 Z = true := hw _ (List.mem_of_getElem? (i := 228) rfl)
theorem w229 (hw : Hw a0 Z) : (Jvm.Cond.instanceMethod my51).before a0 Z = true := hw _ (List.mem_of_getElem? (i := 229) rfl)
theorem w230 (hw : Hw a0 Z) : (Jvm.Cond.selects "com/example/ply3/ply3/TextWriter" my51 my51).before a0 Z = true := hw _ (List.mem_of_getElem? (i := 230) rfl)
theorem w231 (hw : Hw a0 Z) : (Jvm.Cond.code my51 prog_33_method_4_code (2 : Nat) (Option.none : Option Jvm.ClassFile.FieldType)).before a0 Z = true := hw _ (List.mem_of_getElem? (i := 231) rfl)
theorem w232 (hw : Hw a0 Z) : (Jvm.Cond.stringLink "com/example/ply3/ply3/TextWriter" (22 : Nat) "string").before a0 Z = true := hw _ (List.mem_of_getElem? (i := 232) rfl)
theorem w233 (hw : Hw a0 Z) : (Jvm.Cond.methodLink "com/example/ply3/ply3/TextWriter" (24 : Nat) my50).before a0 Z = true := hw _ (List.mem_of_getElem? (i := 233) rfl)
theorem w234 (hw : Hw a0 Z) : (Jvm.Cond.static my50).before a0 Z = true := hw _ (List.mem_of_getElem? (i := 234) rfl)
theorem w235 (hw : Hw a0 Z) : (Jvm.Cond.initialized "java/util/Objects").before a0 Z = true := hw _ (List.mem_of_getElem? (i := 235) rfl)
theorem w236 (hw : Hw a0 Z) : (Jvm.Cond.code my50 jdk_31_method_11_code (2 : Nat) (Option.some (Jvm.ClassFile.FieldType.object "java/lang/Object"))).before a0 Z = true := hw _ (List.mem_of_getElem? (i := 236) rfl)
theorem w237 (hw : Hw a0 Z) : (Jvm.Cond.methodLink "com/example/ply3/ply3/TextWriter" (38 : Nat) my44).before a0 Z = true := hw _ (List.mem_of_getElem? (i := 237) rfl)
theorem w238 (hw : Hw a0 Z) : (Jvm.Cond.declares my44).before a0 Z = true := hw _ (List.mem_of_getElem? (i := 238) rfl)
theorem w239 (hw : Hw a0 Z) : (Jvm.Cond.instanceMethod my44).before a0 Z = true := hw _ (List.mem_of_getElem? (i := 239) rfl)
theorem w240 (hw : Hw a0 Z) : (Jvm.Cond.selects "java/lang/StringBuilder" my44 my44).before a0 Z = true := hw _ (List.mem_of_getElem? (i := 240) rfl)
theorem w241 (hw : Hw a0 Z) : (Jvm.Cond.code my44 jdk_67_method_7_code (2 : Nat) (Option.some (Jvm.ClassFile.FieldType.object "java/lang/StringBuilder"))).before a0 Z = true := hw _ (List.mem_of_getElem? (i := 241) rfl)
theorem w242 (hw : Hw a0 Z) : (Jvm.Cond.methodLink "java/lang/StringBuilder" (29 : Nat) my43).before a0 Z = true := hw _ (List.mem_of_getElem? (i := 242) rfl)
theorem w243 (hw : Hw a0 Z) : (Jvm.Cond.instanceMethod my43).before a0 Z = true := hw _ (List.mem_of_getElem? (i := 243) rfl)
theorem w245 (hw : Hw a0 Z) : (Jvm.Cond.code my43 jdk_68_method_22_code (3 : Nat) (Option.some (Jvm.ClassFile.FieldType.object "java/lang/AbstractStringBuilder"))).before a0 Z = true := hw _ (List.mem_of_getElem? (i := 245) rfl)
theorem w246 (hw : Hw a0 Z) : (Jvm.Cond.methodLink "java/lang/AbstractStringBuilder" (32 : Nat) my11).before a0 Z = true := hw _ (List.mem_of_getElem? (i := 246) rfl)
theorem w247 (hw : Hw a0 Z) : (Jvm.Cond.methodLink "java/lang/AbstractStringBuilder" (208 : Nat) my42).before a0 Z = true := hw _ (List.mem_of_getElem? (i := 247) rfl)
theorem w248 (hw : Hw a0 Z) : (Jvm.Cond.instanceMethod my42).before a0 Z = true := hw _ (List.mem_of_getElem? (i := 248) rfl)
theorem w249 (hw : Hw a0 Z) : (Jvm.Cond.privateMethod my42).before a0 Z = true := hw _ (List.mem_of_getElem? (i := 249) rfl)
theorem w250 (hw : Hw a0 Z) : (Jvm.Cond.selects "java/lang/StringBuilder" my42 my42).before a0 Z = true := hw _ (List.mem_of_getElem? (i := 250) rfl)
theorem w251 (hw : Hw a0 Z) : (Jvm.Cond.code my42 jdk_68_method_73_code (3 : Nat) (Option.none : Option Jvm.ClassFile.FieldType)).before a0 Z = true := hw _ (List.mem_of_getElem? (i := 251) rfl)
theorem w252 (hw : Hw a0 Z) : (Jvm.Cond.methodLink "java/lang/AbstractStringBuilder" (397 : Nat) my41).before a0 Z = true := hw _ (List.mem_of_getElem? (i := 252) rfl)
theorem w253 (hw : Hw a0 Z) : (Jvm.Cond.instanceMethod my41).before a0 Z = true := hw _ (List.mem_of_getElem? (i := 253) rfl)
theorem w254 (hw : Hw a0 Z) : (Jvm.Cond.privateMethod my41).before a0 Z = true := hw _ (List.mem_of_getElem? (i := 254) rfl)
theorem w255 (hw : Hw a0 Z) : (Jvm.Cond.selects "java/lang/StringBuilder" my41 my41).before a0 Z = true := hw _ (List.mem_of_getElem? (i := 255) rfl)
theorem w256 (hw : Hw a0 Z) : (Jvm.Cond.code my41 jdk_68_method_71_code (2 : Nat) (Option.none : Option Jvm.ClassFile.FieldType)).before a0 Z = true := hw _ (List.mem_of_getElem? (i := 256) rfl)
theorem w257 (hw : Hw a0 Z) : (Jvm.Cond.methodLink "java/lang/AbstractStringBuilder" (40 : Nat) my10).before a0 Z = true := hw _ (List.mem_of_getElem? (i := 257) rfl)
theorem w258 (hw : Hw a0 Z) : (Jvm.Cond.methodLink "java/lang/AbstractStringBuilder" (195 : Nat) my33).before a0 Z = true := hw _ (List.mem_of_getElem? (i := 258) rfl)
theorem w259 (hw : Hw a0 Z) : (Jvm.Cond.instanceMethod my33).before a0 Z = true := hw _ (List.mem_of_getElem? (i := 259) rfl)
theorem w260 (hw : Hw a0 Z) : (Jvm.Cond.privateMethod my33).before a0 Z = true := hw _ (List.mem_of_getElem? (i := 260) rfl)
theorem w261 (hw : Hw a0 Z) : (Jvm.Cond.selects "java/lang/StringBuilder" my33 my33).before a0 Z = true := hw _ (List.mem_of_getElem? (i := 261) rfl)
theorem w262 (hw : Hw a0 Z) : (Jvm.Cond.code my33 jdk_68_method_11_code (2 : Nat) (Option.none : Option Jvm.ClassFile.FieldType)).before a0 Z = true := hw _ (List.mem_of_getElem? (i := 262) rfl)
theorem w263 (hw : Hw a0 Z) : (Jvm.Cond.methodLink "java/lang/AbstractStringBuilder" (26 : Nat) my2).before a0 Z = true := hw _ (List.mem_of_getElem? (i := 263) rfl)
theorem w264 (hw : Hw a0 Z) : (Jvm.Cond.methodLink "java/lang/AbstractStringBuilder" (125 : Nat) my27).before a0 Z = true := hw _ (List.mem_of_getElem? (i := 264) rfl)
theorem w265 (hw : Hw a0 Z) : (Jvm.Cond.static my27).before a0 Z = true := hw _ (List.mem_of_getElem? (i := 265) rfl)
theorem w266 (hw : Hw a0 Z) : (Jvm.Cond.code my27 jdk_43_method_50_code (5 : Nat) (Option.none : Option Jvm.ClassFile.FieldType)).before a0 Z = true := hw _ (List.mem_of_getElem? (i := 266) rfl)
theorem w267 (hw : Hw a0 Z) : (Jvm.Cond.methodLink "java/lang/StringLatin1" (240 : Nat) my26).before a0 Z = true := hw _ (List.mem_of_getElem? (i := 267) rfl)
theorem w268 (hw : Hw a0 Z) : (Jvm.Cond.static my26).before a0 Z = true := hw _ (List.mem_of_getElem? (i := 268) rfl)
theorem w269 (hw : Hw a0 Z) : (Jvm.Cond.code my26 jdk_52_method_86_code (6 : Nat) (Option.none : Option Jvm.ClassFile.FieldType)).before a0 Z = true := hw _ (List.mem_of_getElem? (i := 269) rfl)
theorem w270 (hw : Hw a0 Z) : (Jvm.Cond.methodLink "java/lang/StringUTF16" (173 : Nat) my22).before a0 Z = true := hw _ (List.mem_of_getElem? (i := 270) rfl)
theorem w271 (hw : Hw a0 Z) : (Jvm.Cond.static my22).before a0 Z = true := hw _ (List.mem_of_getElem? (i := 271) rfl)
theorem w272 (hw : Hw a0 Z) : (Jvm.Cond.code my22 jdk_52_method_94_code (3 : Nat) (Option.none : Option Jvm.ClassFile.FieldType)).before a0 Z = true := hw _ (List.mem_of_getElem? (i := 272) rfl)
theorem w273 (hw : Hw a0 Z) : (Jvm.Cond.methodLink "java/lang/StringUTF16" (48 : Nat) my15).before a0 Z = true := hw _ (List.mem_of_getElem? (i := 273) rfl)
theorem w274 (hw : Hw a0 Z) : (Jvm.Cond.static my15).before a0 Z = true := hw _ (List.mem_of_getElem? (i := 274) rfl)
theorem w275 (hw : Hw a0 Z) : (Jvm.Cond.code my15 jdk_52_method_6_code (1 : Nat) (Option.some Jvm.ClassFile.FieldType.int)).before a0 Z = true := hw _ (List.mem_of_getElem? (i := 275) rfl)
theorem w276 (hw : Hw a0 Z) : (Jvm.Cond.methodLink "java/lang/StringUTF16" (419 : Nat) my21).before a0 Z = true := hw _ (List.mem_of_getElem? (i := 276) rfl)
theorem w277 (hw : Hw a0 Z) : (Jvm.Cond.static my21).before a0 Z = true := hw _ (List.mem_of_getElem? (i := 277) rfl)
theorem w278 (hw : Hw a0 Z) : (Jvm.Cond.code my21 jdk_42_method_157_code (3 : Nat) (Option.some Jvm.ClassFile.FieldType.int)).before a0 Z = true := hw _ (List.mem_of_getElem? (i := 278) rfl)
theorem w279 (hw : Hw a0 Z) : (Jvm.Cond.methodLink "java/lang/String" (1065 : Nat) my20).before a0 Z = true := hw _ (List.mem_of_getElem? (i := 279) rfl)
theorem w280 (hw : Hw a0 Z) : (Jvm.Cond.static my20).before a0 Z = true := hw _ (List.mem_of_getElem? (i := 280) rfl)
theorem w281 (hw : Hw a0 Z) : (Jvm.Cond.code my20 jdk_41_method_13_code (4 : Nat) (Option.some Jvm.ClassFile.FieldType.int)).before a0 Z = true := hw _ (List.mem_of_getElem? (i := 281) rfl)
theorem w282 (hw : Hw a0 Z) : (Jvm.Cond.methodLink "java/lang/AbstractStringBuilder" (399 : Nat) my40).before a0 Z = true := hw _ (List.mem_of_getElem? (i := 282) rfl)
theorem w283 (hw : Hw a0 Z) : (Jvm.Cond.declares my40).before a0 Z = true := hw _ (List.mem_of_getElem? (i := 283) rfl)
theorem w284 (hw : Hw a0 Z) : (Jvm.Cond.instanceMethod my40).before a0 Z = true := hw _ (List.mem_of_getElem? (i := 284) rfl)
theorem w285 (hw : Hw a0 Z) : (Jvm.Cond.selects "java/lang/String" my40 my40).before a0 Z = true := hw _ (List.mem_of_getElem? (i := 285) rfl)
theorem w286 (hw : Hw a0 Z) : (Jvm.Cond.code my40 jdk_42_method_147_code (4 : Nat) (Option.none : Option Jvm.ClassFile.FieldType)).before a0 Z = true := hw _ (List.mem_of_getElem? (i := 286) rfl)
theorem w287 (hw : Hw a0 Z) : (Jvm.Cond.methodLink "java/lang/String" (212 : Nat) mz1).before a0 Z = true := hw _ (List.mem_of_getElem? (i := 287) rfl)
theorem w288 (hw : Hw a0 Z) : (Jvm.Cond.methodLink "java/lang/AbstractStringBuilder" (386 : Nat) my29).before a0 Z = true := hw _ (List.mem_of_getElem? (i := 288) rfl)
theorem w289 (hw : Hw a0 Z) : (Jvm.Cond.static my29).before a0 Z = true := hw _ (List.mem_of_getElem? (i := 289) rfl)
theorem w290 (hw : Hw a0 Z) : (Jvm.Cond.code my29 jdk_52_method_72_code (5 : Nat) (Option.none : Option Jvm.ClassFile.FieldType)).before a0 Z = true := hw _ (List.mem_of_getElem? (i := 290) rfl)
theorem w291 (hw : Hw a0 Z) : (Jvm.Cond.methodLink "java/lang/StringUTF16" (96 : Nat) my25).before a0 Z = true := hw _ (List.mem_of_getElem? (i := 291) rfl)
theorem w292 (hw : Hw a0 Z) : (Jvm.Cond.static my25).before a0 Z = true := hw _ (List.mem_of_getElem? (i := 292) rfl)
theorem w293 (hw : Hw a0 Z) : (Jvm.Cond.code my25 jdk_52_method_93_code (3 : Nat) (Option.none : Option Jvm.ClassFile.FieldType)).before a0 Z = true := hw _ (List.mem_of_getElem? (i := 293) rfl)
theorem w294 (hw : Hw a0 Z) : (Jvm.Cond.methodLink "java/lang/StringUTF16" (241 : Nat) my24).before a0 Z = true := hw _ (List.mem_of_getElem? (i := 294) rfl)
theorem w295 (hw : Hw a0 Z) : (Jvm.Cond.static my24).before a0 Z = true := hw _ (List.mem_of_getElem? (i := 295) rfl)
theorem w296 (hw : Hw a0 Z) : (Jvm.Cond.code my24 jdk_42_method_158_code (3 : Nat) (Option.none : Option Jvm.ClassFile.FieldType)).before a0 Z = true := hw _ (List.mem_of_getElem? (i := 296) rfl)
theorem w297 (hw : Hw a0 Z) : (Jvm.Cond.methodLink "java/lang/String" (1062 : Nat) my23).before a0 Z = true := hw _ (List.mem_of_getElem? (i := 297) rfl)
theorem w298 (hw : Hw a0 Z) : (Jvm.Cond.methodLink "java/lang/StringUTF16" (384 : Nat) my28).before a0 Z = true := hw _ (List.mem_of_getElem? (i := 298) rfl)
theorem w299 (hw : Hw a0 Z) : (Jvm.Cond.static my28).before a0 Z = true := hw _ (List.mem_of_getElem? (i := 299) rfl)
theorem w300 (hw : Hw a0 Z) : (Jvm.Cond.code my28 jdk_52_method_68_code (5 : Nat) (Option.none : Option Jvm.ClassFile.FieldType)).before a0 Z = true := hw _ (List.mem_of_getElem? (i := 300) rfl)
theorem w301 (hw : Hw a0 Z) : (Jvm.Cond.fieldLink "java/lang/String" (1048 : Nat) "java/lang/AbstractStringBuilder" "maybeLatin1" "Z").before a0 Z = true := hw _ (List.mem_of_getElem? (i := 301) rfl)
theorem w302 (hw : Hw a0 Z) : (Jvm.Cond.lays "java/lang/StringBuilder" "java/lang/AbstractStringBuilder" "maybeLatin1" "Z").before a0 Z = true := hw _ (List.mem_of_getElem? (i := 302) rfl)
theorem w303 (hw : Hw a0 Z) : (Jvm.Cond.methodLink "java/lang/String" (498 : Nat) my17).before a0 Z = true := hw _ (List.mem_of_getElem? (i := 303) rfl)
theorem w304 (hw : Hw a0 Z) : (Jvm.Cond.static my17).before a0 Z = true := hw _ (List.mem_of_getElem? (i := 304) rfl)
theorem w305 (hw : Hw a0 Z) : (Jvm.Cond.code my17 jdk_52_method_83_code (2 : Nat) (Option.some Jvm.ClassFile.FieldType.char)).before a0 Z = true := hw _ (List.mem_of_getElem? (i := 305) rfl)
theorem w306 (hw : Hw a0 Z) : (Jvm.Cond.methodLink "java/lang/StringUTF16" (67 : Nat) my16).before a0 Z = true := hw _ (List.mem_of_getElem? (i := 306) rfl)
theorem w307 (hw : Hw a0 Z) : (Jvm.Cond.static my16).before a0 Z = true := hw _ (List.mem_of_getElem? (i := 307) rfl)
theorem w308 (hw : Hw a0 Z) : (Jvm.Cond.code my16 jdk_52_method_91_code (2 : Nat) (Option.none : Option Jvm.ClassFile.FieldType)).before a0 Z = true := hw _ (List.mem_of_getElem? (i := 308) rfl)
theorem w309 (hw : Hw a0 Z) : (Jvm.Cond.methodLink "java/lang/StringUTF16" (414 : Nat) my13).before a0 Z = true := hw _ (List.mem_of_getElem? (i := 309) rfl)
theorem w310 (hw : Hw a0 Z) : (Jvm.Cond.methodLink "com/example/ply3/ply3/TextWriterToStringPinLaw" (41 : Nat) my48).before a0 Z = true := hw _ (List.mem_of_getElem? (i := 310) rfl)
theorem w311 (hw : Hw a0 Z) : (Jvm.Cond.declares my48).before a0 Z = true := hw _ (List.mem_of_getElem? (i := 311) rfl)
theorem w312 (hw : Hw a0 Z) : (Jvm.Cond.instanceMethod my48).before a0 Z = true := hw _ (List.mem_of_getElem? (i := 312) rfl)
theorem w313 (hw : Hw a0 Z) : (Jvm.Cond.selects "com/example/ply3/ply3/TextWriter" my48 my48).before a0 Z = true := hw _ (List.mem_of_getElem? (i := 313) rfl)
theorem w314 (hw : Hw a0 Z) : (Jvm.Cond.code my48 prog_33_method_2_code (2 : Nat) (Option.none : Option Jvm.ClassFile.FieldType)).before a0 Z = true := hw _ (List.mem_of_getElem? (i := 314) rfl)
theorem w315 (hw : Hw a0 Z) : (Jvm.Cond.methodLink "com/example/ply3/ply3/TextWriter" (13 : Nat) my36).before a0 Z = true := hw _ (List.mem_of_getElem? (i := 315) rfl)
theorem w316 (hw : Hw a0 Z) : (Jvm.Cond.declares my36).before a0 Z = true := hw _ (List.mem_of_getElem? (i := 316) rfl)
theorem w317 (hw : Hw a0 Z) : (Jvm.Cond.instanceMethod my36).before a0 Z = true := hw _ (List.mem_of_getElem? (i := 317) rfl)
theorem w318 (hw : Hw a0 Z) : (Jvm.Cond.selects "java/lang/StringBuilder" my36 my36).before a0 Z = true := hw _ (List.mem_of_getElem? (i := 318) rfl)
theorem w319 (hw : Hw a0 Z) : (Jvm.Cond.code my36 jdk_67_method_14_code (2 : Nat) (Option.some (Jvm.ClassFile.FieldType.object "java/lang/StringBuilder"))).before a0 Z = true := hw _ (List.mem_of_getElem? (i := 319) rfl)
theorem w320 (hw : Hw a0 Z) : (Jvm.Cond.methodLink "java/lang/StringBuilder" (50 : Nat) my35).before a0 Z = true := hw _ (List.mem_of_getElem? (i := 320) rfl)
theorem w321 (hw : Hw a0 Z) : (Jvm.Cond.instanceMethod my35).before a0 Z = true := hw _ (List.mem_of_getElem? (i := 321) rfl)
theorem w323 (hw : Hw a0 Z) : (Jvm.Cond.code my35 jdk_68_method_31_code (2 : Nat) (Option.some (Jvm.ClassFile.FieldType.object "java/lang/AbstractStringBuilder"))).before a0 Z = true := hw _ (List.mem_of_getElem? (i := 323) rfl)
theorem w324 (hw : Hw a0 Z) : (Jvm.Cond.methodLink "java/lang/AbstractStringBuilder" (197 : Nat) my30).before a0 Z = true := hw _ (List.mem_of_getElem? (i := 324) rfl)
theorem w325 (hw : Hw a0 Z) : (Jvm.Cond.static my30).before a0 Z = true := hw _ (List.mem_of_getElem? (i := 325) rfl)
theorem w326 (hw : Hw a0 Z) : (Jvm.Cond.code my30 jdk_52_method_71_code (3 : Nat) (Option.none : Option Jvm.ClassFile.FieldType)).before a0 Z = true := hw _ (List.mem_of_getElem? (i := 326) rfl)
theorem w327 (hw : Hw a0 Z) : (Jvm.Cond.methodLink "java/lang/String" (106 : Nat) my27).before a0 Z = true := hw _ (List.mem_of_getElem? (i := 327) rfl)
end
abbrev d0 : ByteArray := jdk_52_method_21_code
abbrev d1 : ByteArray := jdk_52_method_3_code
abbrev d2 : ByteArray := jdk_52_method_2_code
abbrev d3 : ByteArray := jdk_52_method_4_code
abbrev d4 : ByteArray := jdk_52_method_5_code
abbrev d5 : ByteArray := jdk_52_method_14_code
abbrev d6 : ByteArray := jdk_52_method_16_code
abbrev d7 : ByteArray := jdk_52_method_15_code
abbrev d8 : ByteArray := jdk_42_method_149_code
abbrev d9 : ByteArray := jdk_42_method_3_code
abbrev d10 : ByteArray := jdk_42_method_54_code
abbrev d11 : ByteArray := jdk_42_method_152_code
abbrev d12 : ByteArray := jdk_43_method_2_code
abbrev d13 : ByteArray := jdk_42_method_155_code
abbrev d14 : ByteArray := jdk_41_method_11_code
abbrev d15 : ByteArray := jdk_52_method_6_code
abbrev d16 : ByteArray := jdk_52_method_91_code
abbrev d17 : ByteArray := jdk_52_method_83_code
abbrev d18 : ByteArray := jdk_42_method_56_code
abbrev d19 : ByteArray := jdk_42_method_154_code
abbrev d20 : ByteArray := jdk_52_method_94_code
abbrev d21 : ByteArray := jdk_42_method_157_code
abbrev d22 : ByteArray := jdk_41_method_13_code
abbrev d23 : ByteArray := jdk_52_method_93_code
abbrev d24 : ByteArray := jdk_42_method_158_code
abbrev d25 : ByteArray := jdk_41_method_12_code
abbrev d26 : ByteArray := jdk_52_method_86_code
abbrev d27 : ByteArray := jdk_43_method_50_code
abbrev d28 : ByteArray := jdk_52_method_68_code
abbrev d29 : ByteArray := jdk_52_method_72_code
abbrev d30 : ByteArray := jdk_52_method_71_code
abbrev d31 : ByteArray := jdk_68_method_9_code
abbrev d32 : ByteArray := jdk_68_method_11_code
abbrev d33 : ByteArray := jdk_68_method_68_code
abbrev d34 : ByteArray := jdk_68_method_31_code
abbrev d35 : ByteArray := jdk_43_method_3_code
abbrev d36 : ByteArray := jdk_67_method_14_code
abbrev d37 : ByteArray := jdk_68_method_74_code
abbrev d38 : ByteArray := jdk_68_method_29_code
abbrev d39 : ByteArray := jdk_67_method_12_code
abbrev d40 : ByteArray := jdk_42_method_147_code
abbrev d41 : ByteArray := jdk_68_method_71_code
abbrev d42 : ByteArray := jdk_68_method_73_code
abbrev d43 : ByteArray := jdk_68_method_22_code
abbrev d44 : ByteArray := jdk_67_method_7_code
abbrev d45 : ByteArray := prog_33_method_9_code
abbrev d46 : ByteArray := jdk_67_method_1_code
abbrev d47 : ByteArray := jdk_68_method_2_code
abbrev d48 : ByteArray := prog_33_method_2_code
abbrev d49 : ByteArray := prog_33_method_3_code
abbrev d50 : ByteArray := prog_33_method_4_code
abbrev d51 : ByteArray := jdk_31_method_11_code
abbrev d52 : ByteArray := method_5_code
abbrev d53 : ByteArray := jdk_29_method_69_code
abbrev d54 : ByteArray := jdk_65_method_133_code
abbrev d55 : ByteArray := jdk_65_method_131_code
abbrev d56 : ByteArray := jdk_65_method_132_code
abbrev d57 : ByteArray := method_4_code
abbrev d58 : ByteArray := method_3_code
abbrev d59 : ByteArray := jdk_42_method_150_code
abbrev d60 : ByteArray := jdk_68_method_64_code
abbrev d61 : ByteArray := jdk_67_method_93_code
abbrev d62 : ByteArray := jdk_68_method_6_code
abbrev d63 : ByteArray := jdk_42_method_53_code
abbrev d64 : ByteArray := jdk_67_method_42_code
abbrev d65 : ByteArray := prog_33_method_8_code
abbrev d66 : ByteArray := method_6_code
abbrev d67 : ByteArray := prog_33_method_1_code
abbrev d68 : ByteArray := jdk_2052_method_2_code
theorem e0_0 : decode d0 0 = .ok (.iconst 0, 1) := by decide +kernel
theorem e0_1 : decode d0 1 = .ok (.istore 5, 2) := by decide +kernel
theorem e0_3 : decode d0 3 = .ok (.iload 5, 2) := by decide +kernel
theorem e0_5 : decode d0 5 = .ok (.iload 4, 2) := by decide +kernel
theorem e0_7 : decode d0 7 = .ok (.if_icmp .ge 37, 3) := by decide +kernel
theorem e0_10 : decode d0 10 = .ok (.aload_n 0, 1) := by decide +kernel
theorem e0_11 : decode d0 11 = .ok (.iload_n 1, 1) := by decide +kernel
theorem e0_12 : decode d0 12 = .ok (.caload, 1) := by decide +kernel
theorem e0_13 : decode d0 13 = .ok (.istore 6, 2) := by decide +kernel
theorem e0_15 : decode d0 15 = .ok (.iload 6, 2) := by decide +kernel
theorem e0_17 : decode d0 17 = .ok (.sipush 255, 3) := by decide +kernel
theorem e0_20 : decode d0 20 = .ok (.if_icmp .le 6, 3) := by decide +kernel
theorem e0_23 : decode d0 23 = .ok (.iload 5, 2) := by decide +kernel
theorem e0_25 : decode d0 25 = .ok (.ireturn, 1) := by decide +kernel
theorem e0_26 : decode d0 26 = .ok (.aload_n 2, 1) := by decide +kernel
theorem e0_27 : decode d0 27 = .ok (.iload_n 3, 1) := by decide +kernel
theorem e0_28 : decode d0 28 = .ok (.iload 6, 2) := by decide +kernel
theorem e0_30 : decode d0 30 = .ok (.i2b, 1) := by decide +kernel
theorem e0_31 : decode d0 31 = .ok (.bastore, 1) := by decide +kernel
theorem e0_32 : decode d0 32 = .ok (.iinc 1 1, 3) := by decide +kernel
theorem e0_35 : decode d0 35 = .ok (.iinc 3 1, 3) := by decide +kernel
theorem e0_38 : decode d0 38 = .ok (.iinc 5 1, 3) := by decide +kernel
theorem e0_41 : decode d0 41 = .ok (.goto (-38), 3) := by decide +kernel
theorem e0_44 : decode d0 44 = .ok (.iload 4, 2) := by decide +kernel
theorem e0_46 : decode d0 46 = .ok (.ireturn, 1) := by decide +kernel
theorem e1_0 : decode d1 0 = .ok (.iload_n 0, 1) := by decide +kernel
theorem e1_1 : decode d1 1 = .ok (.ifCond .ge 11, 3) := by decide +kernel
theorem e1_12 : decode d1 12 = .ok (.iload_n 0, 1) := by decide +kernel
theorem e1_13 : decode d1 13 = .ok (.ldc 20, 2) := by decide +kernel
theorem e1_15 : decode d1 15 = .ok (.if_icmp .lt 40, 3) := by decide +kernel
theorem e1_55 : decode d1 55 = .ok (.iload_n 0, 1) := by decide +kernel
theorem e1_56 : decode d1 56 = .ok (.iconst 1, 1) := by decide +kernel
theorem e1_57 : decode d1 57 = .ok (.ishl, 1) := by decide +kernel
theorem e1_58 : decode d1 58 = .ok (.ireturn, 1) := by decide +kernel
theorem e2_0 : decode d2 0 = .ok (.iload_n 0, 1) := by decide +kernel
theorem e2_1 : decode d2 1 = .ok (.invokestatic 11, 3) := by decide +kernel
theorem e2_4 : decode d2 4 = .ok (.newarray .byte, 2) := by decide +kernel
theorem e2_6 : decode d2 6 = .ok (.areturn, 1) := by decide +kernel
theorem e3_0 : decode d3 0 = .ok (.getstatic 44, 3) := by decide +kernel
theorem e3_3 : decode d3 3 = .ok (.ifCond .ne 25, 3) := by decide +kernel
theorem e3_28 : decode d3 28 = .ok (.iload_n 1, 1) := by decide +kernel
theorem e3_29 : decode d3 29 = .ok (.iconst 1, 1) := by decide +kernel
theorem e3_30 : decode d3 30 = .ok (.ishl, 1) := by decide +kernel
theorem e3_31 : decode d3 31 = .ok (.istore_n 1, 1) := by decide +kernel
theorem e3_32 : decode d3 32 = .ok (.aload_n 0, 1) := by decide +kernel
theorem e3_33 : decode d3 33 = .ok (.iload_n 1, 1) := by decide +kernel
theorem e3_34 : decode d3 34 = .ok (.iinc 1 1, 3) := by decide +kernel
theorem e3_37 : decode d3 37 = .ok (.iload_n 2, 1) := by decide +kernel
theorem e3_38 : decode d3 38 = .ok (.getstatic 59, 3) := by decide +kernel
theorem e3_41 : decode d3 41 = .ok (.ishr, 1) := by decide +kernel
theorem e3_42 : decode d3 42 = .ok (.i2b, 1) := by decide +kernel
theorem e3_43 : decode d3 43 = .ok (.bastore, 1) := by decide +kernel
theorem e3_44 : decode d3 44 = .ok (.aload_n 0, 1) := by decide +kernel
theorem e3_45 : decode d3 45 = .ok (.iload_n 1, 1) := by decide +kernel
theorem e3_46 : decode d3 46 = .ok (.iload_n 2, 1) := by decide +kernel
theorem e3_47 : decode d3 47 = .ok (.getstatic 63, 3) := by decide +kernel
theorem e3_50 : decode d3 50 = .ok (.ishr, 1) := by decide +kernel
theorem e3_51 : decode d3 51 = .ok (.i2b, 1) := by decide +kernel
theorem e3_52 : decode d3 52 = .ok (.bastore, 1) := by decide +kernel
theorem e3_53 : decode d3 53 = .ok (.return_, 1) := by decide +kernel
theorem e4_0 : decode d4 0 = .ok (.getstatic 44, 3) := by decide +kernel
theorem e4_3 : decode d4 3 = .ok (.ifCond .ne 25, 3) := by decide +kernel
theorem e4_28 : decode d4 28 = .ok (.iload_n 1, 1) := by decide +kernel
theorem e4_29 : decode d4 29 = .ok (.iconst 1, 1) := by decide +kernel
theorem e4_30 : decode d4 30 = .ok (.ishl, 1) := by decide +kernel
theorem e4_31 : decode d4 31 = .ok (.istore_n 1, 1) := by decide +kernel
theorem e4_32 : decode d4 32 = .ok (.aload_n 0, 1) := by decide +kernel
theorem e4_33 : decode d4 33 = .ok (.iload_n 1, 1) := by decide +kernel
theorem e4_34 : decode d4 34 = .ok (.iinc 1 1, 3) := by decide +kernel
theorem e4_37 : decode d4 37 = .ok (.baload, 1) := by decide +kernel
theorem e4_38 : decode d4 38 = .ok (.sipush 255, 3) := by decide +kernel
theorem e4_41 : decode d4 41 = .ok (.iand, 1) := by decide +kernel
theorem e4_42 : decode d4 42 = .ok (.getstatic 59, 3) := by decide +kernel
theorem e4_45 : decode d4 45 = .ok (.ishl, 1) := by decide +kernel
theorem e4_46 : decode d4 46 = .ok (.aload_n 0, 1) := by decide +kernel
theorem e4_47 : decode d4 47 = .ok (.iload_n 1, 1) := by decide +kernel
theorem e4_48 : decode d4 48 = .ok (.baload, 1) := by decide +kernel
theorem e4_49 : decode d4 49 = .ok (.sipush 255, 3) := by decide +kernel
theorem e4_52 : decode d4 52 = .ok (.iand, 1) := by decide +kernel
theorem e4_53 : decode d4 53 = .ok (.getstatic 63, 3) := by decide +kernel
theorem e4_56 : decode d4 56 = .ok (.ishl, 1) := by decide +kernel
theorem e4_57 : decode d4 57 = .ok (.ior, 1) := by decide +kernel
theorem e4_58 : decode d4 58 = .ok (.i2c, 1) := by decide +kernel
theorem e4_59 : decode d4 59 = .ok (.ireturn, 1) := by decide +kernel
theorem e5_0 : decode d5 0 = .ok (.iload_n 2, 1) := by decide +kernel
theorem e5_1 : decode d5 1 = .ok (.invokestatic 107, 3) := by decide +kernel
theorem e5_4 : decode d5 4 = .ok (.astore_n 3, 1) := by decide +kernel
theorem e5_5 : decode d5 5 = .ok (.iconst 0, 1) := by decide +kernel
theorem e5_6 : decode d5 6 = .ok (.istore 4, 2) := by decide +kernel
theorem e5_8 : decode d5 8 = .ok (.iload 4, 2) := by decide +kernel
theorem e5_10 : decode d5 10 = .ok (.iload_n 2, 1) := by decide +kernel
theorem e5_11 : decode d5 11 = .ok (.if_icmp .ge 21, 3) := by decide +kernel
theorem e5_14 : decode d5 14 = .ok (.aload_n 3, 1) := by decide +kernel
theorem e5_15 : decode d5 15 = .ok (.iload 4, 2) := by decide +kernel
theorem e5_17 : decode d5 17 = .ok (.aload_n 0, 1) := by decide +kernel
theorem e5_18 : decode d5 18 = .ok (.iload_n 1, 1) := by decide +kernel
theorem e5_19 : decode d5 19 = .ok (.caload, 1) := by decide +kernel
theorem e5_20 : decode d5 20 = .ok (.invokestatic 111, 3) := by decide +kernel
theorem e5_23 : decode d5 23 = .ok (.iinc 1 1, 3) := by decide +kernel
theorem e5_26 : decode d5 26 = .ok (.iinc 4 1, 3) := by decide +kernel
theorem e5_29 : decode d5 29 = .ok (.goto (-21), 3) := by decide +kernel
theorem e5_32 : decode d5 32 = .ok (.aload_n 3, 1) := by decide +kernel
theorem e5_33 : decode d5 33 = .ok (.areturn, 1) := by decide +kernel
theorem e6_0 : decode d6 0 = .ok (.iload_n 2, 1) := by decide +kernel
theorem e6_1 : decode d6 1 = .ok (.newarray .byte, 2) := by decide +kernel
theorem e6_3 : decode d6 3 = .ok (.astore_n 3, 1) := by decide +kernel
theorem e6_4 : decode d6 4 = .ok (.aload_n 0, 1) := by decide +kernel
theorem e6_5 : decode d6 5 = .ok (.iload_n 1, 1) := by decide +kernel
theorem e6_6 : decode d6 6 = .ok (.aload_n 3, 1) := by decide +kernel
theorem e6_7 : decode d6 7 = .ok (.iconst 0, 1) := by decide +kernel
theorem e6_8 : decode d6 8 = .ok (.iload_n 2, 1) := by decide +kernel
theorem e6_9 : decode d6 9 = .ok (.invokestatic 115, 3) := by decide +kernel
theorem e6_12 : decode d6 12 = .ok (.istore 4, 2) := by decide +kernel
theorem e6_14 : decode d6 14 = .ok (.iload 4, 2) := by decide +kernel
theorem e6_16 : decode d6 16 = .ok (.iload_n 2, 1) := by decide +kernel
theorem e6_17 : decode d6 17 = .ok (.if_icmp .eq 40, 3) := by decide +kernel
theorem e6_57 : decode d6 57 = .ok (.aload_n 3, 1) := by decide +kernel
theorem e6_58 : decode d6 58 = .ok (.areturn, 1) := by decide +kernel
theorem e6_20 : decode d6 20 = .ok (.aload_n 0, 1) := by decide +kernel
theorem e6_21 : decode d6 21 = .ok (.iload_n 1, 1) := by decide +kernel
theorem e6_22 : decode d6 22 = .ok (.iload_n 2, 1) := by decide +kernel
theorem e6_23 : decode d6 23 = .ok (.invokestatic 119, 3) := by decide +kernel
theorem e6_26 : decode d6 26 = .ok (.astore 5, 2) := by decide +kernel
theorem e6_28 : decode d6 28 = .ok (.aload 5, 2) := by decide +kernel
theorem e6_30 : decode d6 30 = .ok (.iload 4, 2) := by decide +kernel
theorem e6_32 : decode d6 32 = .ok (.invokestatic 71, 3) := by decide +kernel
theorem e6_35 : decode d6 35 = .ok (.sipush 255, 3) := by decide +kernel
theorem e6_38 : decode d6 38 = .ok (.if_icmp .gt 16, 3) := by decide +kernel
theorem e6_54 : decode d6 54 = .ok (.aload 5, 2) := by decide +kernel
theorem e6_56 : decode d6 56 = .ok (.areturn, 1) := by decide +kernel
theorem e7_0 : decode d7 0 = .ok (.iload_n 1, 1) := by decide +kernel
theorem e7_1 : decode d7 1 = .ok (.aload_n 0, 1) := by decide +kernel
theorem e7_2 : decode d7 2 = .ok (.arraylength, 1) := by decide +kernel
theorem e7_3 : decode d7 3 = .ok (.isub, 1) := by decide +kernel
theorem e7_4 : decode d7 4 = .ok (.bipush 31, 2) := by decide +kernel
theorem e7_6 : decode d7 6 = .ok (.iushr, 1) := by decide +kernel
theorem e7_7 : decode d7 7 = .ok (.i2b, 1) := by decide +kernel
theorem e7_8 : decode d7 8 = .ok (.ireturn, 1) := by decide +kernel
theorem e8_0 : decode d8 0 = .ok (.aload_n 0, 1) := by decide +kernel
theorem e8_1 : decode d8 1 = .ok (.invokespecial 1, 3) := by decide +kernel
theorem e8_4 : decode d8 4 = .ok (.iload_n 3, 1) := by decide +kernel
theorem e8_5 : decode d8 5 = .ok (.ifCond .ne 22, 3) := by decide +kernel
theorem e8_8 : decode d8 8 = .ok (.aload_n 0, 1) := by decide +kernel
theorem e8_9 : decode d8 9 = .ok (.ldc 7, 2) := by decide +kernel
theorem e8_11 : decode d8 11 = .ok (.getfield 9, 3) := by decide +kernel
theorem e8_14 : decode d8 14 = .ok (.putfield 9, 3) := by decide +kernel
theorem e8_17 : decode d8 17 = .ok (.aload_n 0, 1) := by decide +kernel
theorem e8_18 : decode d8 18 = .ok (.ldc 7, 2) := by decide +kernel
theorem e8_20 : decode d8 20 = .ok (.getfield 15, 3) := by decide +kernel
theorem e8_23 : decode d8 23 = .ok (.putfield 15, 3) := by decide +kernel
theorem e8_26 : decode d8 26 = .ok (.return_, 1) := by decide +kernel
theorem e8_27 : decode d8 27 = .ok (.getstatic 38, 3) := by decide +kernel
theorem e8_30 : decode d8 30 = .ok (.ifCond .eq 28, 3) := by decide +kernel
theorem e8_33 : decode d8 33 = .ok (.aload_n 1, 1) := by decide +kernel
theorem e8_34 : decode d8 34 = .ok (.iload_n 2, 1) := by decide +kernel
theorem e8_35 : decode d8 35 = .ok (.iload_n 3, 1) := by decide +kernel
theorem e8_36 : decode d8 36 = .ok (.invokestatic 177, 3) := by decide +kernel
theorem e8_39 : decode d8 39 = .ok (.astore 5, 2) := by decide +kernel
theorem e8_41 : decode d8 41 = .ok (.aload_n 0, 1) := by decide +kernel
theorem e8_42 : decode d8 42 = .ok (.aload 5, 2) := by decide +kernel
theorem e8_44 : decode d8 44 = .ok (.iload_n 3, 1) := by decide +kernel
theorem e8_45 : decode d8 45 = .ok (.invokestatic 47, 3) := by decide +kernel
theorem e8_48 : decode d8 48 = .ok (.putfield 15, 3) := by decide +kernel
theorem e8_51 : decode d8 51 = .ok (.aload_n 0, 1) := by decide +kernel
theorem e8_52 : decode d8 52 = .ok (.aload 5, 2) := by decide +kernel
theorem e8_54 : decode d8 54 = .ok (.putfield 9, 3) := by decide +kernel
theorem e8_57 : decode d8 57 = .ok (.return_, 1) := by decide +kernel
theorem e9_0 : decode d9 0 = .ok (.aload_n 0, 1) := by decide +kernel
theorem e9_1 : decode d9 1 = .ok (.aload_n 1, 1) := by decide +kernel
theorem e9_2 : decode d9 2 = .ok (.iconst 0, 1) := by decide +kernel
theorem e9_3 : decode d9 3 = .ok (.aload_n 1, 1) := by decide +kernel
theorem e9_4 : decode d9 4 = .ok (.arraylength, 1) := by decide +kernel
theorem e9_5 : decode d9 5 = .ok (.aconst_null, 1) := by decide +kernel
theorem e9_6 : decode d9 6 = .ok (.invokespecial 27, 3) := by decide +kernel
theorem e9_9 : decode d9 9 = .ok (.return_, 1) := by decide +kernel
theorem e10_0 : decode d10 0 = .ok (.aload_n 0, 1) := by decide +kernel
theorem e10_1 : decode d10 1 = .ok (.getfield 9, 3) := by decide +kernel
theorem e10_4 : decode d10 4 = .ok (.arraylength, 1) := by decide +kernel
theorem e10_5 : decode d10 5 = .ok (.aload_n 0, 1) := by decide +kernel
theorem e10_6 : decode d10 6 = .ok (.invokevirtual 335, 3) := by decide +kernel
theorem e11_0 : decode d11 0 = .ok (.getstatic 38, 3) := by decide +kernel
theorem e11_3 : decode d11 3 = .ok (.ifCond .eq 10, 3) := by decide +kernel
theorem e11_6 : decode d11 6 = .ok (.aload_n 0, 1) := by decide +kernel
theorem e11_7 : decode d11 7 = .ok (.getfield 15, 3) := by decide +kernel
theorem e11_10 : decode d11 10 = .ok (.goto 4, 3) := by decide +kernel
theorem e11_14 : decode d11 14 = .ok (.ireturn, 1) := by decide +kernel
theorem e10_9 : decode d10 9 = .ok (.ishr, 1) := by decide +kernel
theorem e10_10 : decode d10 10 = .ok (.ireturn, 1) := by decide +kernel
theorem e12_0 : decode d12 0 = .ok (.iload_n 1, 1) := by decide +kernel
theorem e12_1 : decode d12 1 = .ok (.aload_n 0, 1) := by decide +kernel
theorem e12_2 : decode d12 2 = .ok (.arraylength, 1) := by decide +kernel
theorem e12_3 : decode d12 3 = .ok (.invokestatic 9, 3) := by decide +kernel
theorem e13_0 : decode d13 0 = .ok (.iload_n 0, 1) := by decide +kernel
theorem e13_1 : decode d13 1 = .ok (.iload_n 1, 1) := by decide +kernel
theorem e13_2 : decode d13 2 = .ok (.getstatic 1053, 3) := by decide +kernel
theorem e13_5 : decode d13 5 = .ok (.invokestatic 1059, 3) := by decide +kernel
theorem e14_0 : decode d14 0 = .ok (.iload_n 0, 1) := by decide +kernel
theorem e14_1 : decode d14 1 = .ok (.ifCond .lt 8, 3) := by decide +kernel
theorem e14_4 : decode d14 4 = .ok (.iload_n 0, 1) := by decide +kernel
theorem e14_5 : decode d14 5 = .ok (.iload_n 1, 1) := by decide +kernel
theorem e14_6 : decode d14 6 = .ok (.if_icmp .lt 10, 3) := by decide +kernel
theorem e14_16 : decode d14 16 = .ok (.iload_n 0, 1) := by decide +kernel
theorem e14_17 : decode d14 17 = .ok (.ireturn, 1) := by decide +kernel
theorem e13_8 : decode d13 8 = .ok (.pop, 1) := by decide +kernel
theorem e13_9 : decode d13 9 = .ok (.return_, 1) := by decide +kernel
theorem e12_6 : decode d12 6 = .ok (.aload_n 0, 1) := by decide +kernel
theorem e12_7 : decode d12 7 = .ok (.iload_n 1, 1) := by decide +kernel
theorem e12_8 : decode d12 8 = .ok (.baload, 1) := by decide +kernel
theorem e12_9 : decode d12 9 = .ok (.sipush 255, 3) := by decide +kernel
theorem e12_12 : decode d12 12 = .ok (.iand, 1) := by decide +kernel
theorem e12_13 : decode d12 13 = .ok (.i2c, 1) := by decide +kernel
theorem e12_14 : decode d12 14 = .ok (.ireturn, 1) := by decide +kernel
theorem e15_0 : decode d15 0 = .ok (.aload_n 0, 1) := by decide +kernel
theorem e15_1 : decode d15 1 = .ok (.arraylength, 1) := by decide +kernel
theorem e15_2 : decode d15 2 = .ok (.iconst 1, 1) := by decide +kernel
theorem e15_3 : decode d15 3 = .ok (.ishr, 1) := by decide +kernel
theorem e15_4 : decode d15 4 = .ok (.ireturn, 1) := by decide +kernel
theorem e16_0 : decode d16 0 = .ok (.iload_n 0, 1) := by decide +kernel
theorem e16_1 : decode d16 1 = .ok (.aload_n 1, 1) := by decide +kernel
theorem e16_2 : decode d16 2 = .ok (.invokestatic 48, 3) := by decide +kernel
theorem e16_5 : decode d16 5 = .ok (.invokestatic 414, 3) := by decide +kernel
theorem e16_8 : decode d16 8 = .ok (.return_, 1) := by decide +kernel
theorem e17_0 : decode d17 0 = .ok (.iload_n 1, 1) := by decide +kernel
theorem e17_1 : decode d17 1 = .ok (.aload_n 0, 1) := by decide +kernel
theorem e17_2 : decode d17 2 = .ok (.invokestatic 67, 3) := by decide +kernel
theorem e17_5 : decode d17 5 = .ok (.aload_n 0, 1) := by decide +kernel
theorem e17_6 : decode d17 6 = .ok (.iload_n 1, 1) := by decide +kernel
theorem e17_7 : decode d17 7 = .ok (.invokestatic 71, 3) := by decide +kernel
theorem e17_10 : decode d17 10 = .ok (.ireturn, 1) := by decide +kernel
theorem e18_0 : decode d18 0 = .ok (.aload_n 0, 1) := by decide +kernel
theorem e18_1 : decode d18 1 = .ok (.invokevirtual 492, 3) := by decide +kernel
theorem e19_0 : decode d19 0 = .ok (.getstatic 38, 3) := by decide +kernel
theorem e19_3 : decode d19 3 = .ok (.ifCond .eq 14, 3) := by decide +kernel
theorem e19_6 : decode d19 6 = .ok (.aload_n 0, 1) := by decide +kernel
theorem e19_7 : decode d19 7 = .ok (.getfield 15, 3) := by decide +kernel
theorem e19_10 : decode d19 10 = .ok (.ifCond .ne 7, 3) := by decide +kernel
theorem e19_13 : decode d19 13 = .ok (.iconst 1, 1) := by decide +kernel
theorem e19_14 : decode d19 14 = .ok (.goto 4, 3) := by decide +kernel
theorem e19_18 : decode d19 18 = .ok (.ireturn, 1) := by decide +kernel
theorem e18_4 : decode d18 4 = .ok (.ifCond .eq 12, 3) := by decide +kernel
theorem e18_7 : decode d18 7 = .ok (.aload_n 0, 1) := by decide +kernel
theorem e18_8 : decode d18 8 = .ok (.getfield 9, 3) := by decide +kernel
theorem e18_11 : decode d18 11 = .ok (.iload_n 1, 1) := by decide +kernel
theorem e18_12 : decode d18 12 = .ok (.invokestatic 495, 3) := by decide +kernel
theorem e18_15 : decode d18 15 = .ok (.ireturn, 1) := by decide +kernel
theorem e19_17 : decode d19 17 = .ok (.iconst 0, 1) := by decide +kernel
theorem e18_16 : decode d18 16 = .ok (.aload_n 0, 1) := by decide +kernel
theorem e18_17 : decode d18 17 = .ok (.getfield 9, 3) := by decide +kernel
theorem e18_20 : decode d18 20 = .ok (.iload_n 1, 1) := by decide +kernel
theorem e18_21 : decode d18 21 = .ok (.invokestatic 498, 3) := by decide +kernel
theorem e18_24 : decode d18 24 = .ok (.ireturn, 1) := by decide +kernel
theorem e20_0 : decode d20 0 = .ok (.iload_n 0, 1) := by decide +kernel
theorem e20_1 : decode d20 1 = .ok (.iload_n 1, 1) := by decide +kernel
theorem e20_2 : decode d20 2 = .ok (.aload_n 2, 1) := by decide +kernel
theorem e20_3 : decode d20 3 = .ok (.invokestatic 48, 3) := by decide +kernel
theorem e20_6 : decode d20 6 = .ok (.invokestatic 419, 3) := by decide +kernel
theorem e21_0 : decode d21 0 = .ok (.iload_n 0, 1) := by decide +kernel
theorem e21_1 : decode d21 1 = .ok (.iload_n 1, 1) := by decide +kernel
theorem e21_2 : decode d21 2 = .ok (.iload_n 2, 1) := by decide +kernel
theorem e21_3 : decode d21 3 = .ok (.getstatic 1053, 3) := by decide +kernel
theorem e21_6 : decode d21 6 = .ok (.invokestatic 1065, 3) := by decide +kernel
theorem e22_0 : decode d22 0 = .ok (.iload_n 2, 1) := by decide +kernel
theorem e22_1 : decode d22 1 = .ok (.iload_n 0, 1) := by decide +kernel
theorem e22_2 : decode d22 2 = .ok (.ior, 1) := by decide +kernel
theorem e22_3 : decode d22 3 = .ok (.iload_n 1, 1) := by decide +kernel
theorem e22_4 : decode d22 4 = .ok (.ior, 1) := by decide +kernel
theorem e22_5 : decode d22 5 = .ok (.ifCond .lt 10, 3) := by decide +kernel
theorem e22_8 : decode d22 8 = .ok (.iload_n 1, 1) := by decide +kernel
theorem e22_9 : decode d22 9 = .ok (.iload_n 2, 1) := by decide +kernel
theorem e22_10 : decode d22 10 = .ok (.iload_n 0, 1) := by decide +kernel
theorem e22_11 : decode d22 11 = .ok (.isub, 1) := by decide +kernel
theorem e22_12 : decode d22 12 = .ok (.if_icmp .le 11, 3) := by decide +kernel
theorem e22_23 : decode d22 23 = .ok (.iload_n 0, 1) := by decide +kernel
theorem e22_24 : decode d22 24 = .ok (.ireturn, 1) := by decide +kernel
theorem e21_9 : decode d21 9 = .ok (.ireturn, 1) := by decide +kernel
theorem e20_9 : decode d20 9 = .ok (.pop, 1) := by decide +kernel
theorem e20_10 : decode d20 10 = .ok (.return_, 1) := by decide +kernel
theorem e23_0 : decode d23 0 = .ok (.iload_n 0, 1) := by decide +kernel
theorem e23_1 : decode d23 1 = .ok (.iload_n 1, 1) := by decide +kernel
theorem e23_2 : decode d23 2 = .ok (.aload_n 2, 1) := by decide +kernel
theorem e23_3 : decode d23 3 = .ok (.invokestatic 48, 3) := by decide +kernel
theorem e23_6 : decode d23 6 = .ok (.invokestatic 241, 3) := by decide +kernel
theorem e24_0 : decode d24 0 = .ok (.iload_n 0, 1) := by decide +kernel
theorem e24_1 : decode d24 1 = .ok (.iload_n 1, 1) := by decide +kernel
theorem e24_2 : decode d24 2 = .ok (.iload_n 2, 1) := by decide +kernel
theorem e24_3 : decode d24 3 = .ok (.getstatic 1053, 3) := by decide +kernel
theorem e24_6 : decode d24 6 = .ok (.invokestatic 1062, 3) := by decide +kernel
theorem e25_0 : decode d25 0 = .ok (.iload_n 0, 1) := by decide +kernel
theorem e25_1 : decode d25 1 = .ok (.ifCond .lt 13, 3) := by decide +kernel
theorem e25_4 : decode d25 4 = .ok (.iload_n 0, 1) := by decide +kernel
theorem e25_5 : decode d25 5 = .ok (.iload_n 1, 1) := by decide +kernel
theorem e25_6 : decode d25 6 = .ok (.if_icmp .gt 8, 3) := by decide +kernel
theorem e25_9 : decode d25 9 = .ok (.iload_n 1, 1) := by decide +kernel
theorem e25_10 : decode d25 10 = .ok (.iload_n 2, 1) := by decide +kernel
theorem e25_11 : decode d25 11 = .ok (.if_icmp .le 11, 3) := by decide +kernel
theorem e25_22 : decode d25 22 = .ok (.iload_n 0, 1) := by decide +kernel
theorem e25_23 : decode d25 23 = .ok (.ireturn, 1) := by decide +kernel
theorem e24_9 : decode d24 9 = .ok (.pop, 1) := by decide +kernel
theorem e24_10 : decode d24 10 = .ok (.return_, 1) := by decide +kernel
theorem e23_9 : decode d23 9 = .ok (.return_, 1) := by decide +kernel
theorem e26_0 : decode d26 0 = .ok (.iload_n 3, 1) := by decide +kernel
theorem e26_1 : decode d26 1 = .ok (.iload 4, 2) := by decide +kernel
theorem e26_3 : decode d26 3 = .ok (.aload_n 2, 1) := by decide +kernel
theorem e26_4 : decode d26 4 = .ok (.invokestatic 173, 3) := by decide +kernel
theorem e26_7 : decode d26 7 = .ok (.iconst 0, 1) := by decide +kernel
theorem e26_8 : decode d26 8 = .ok (.istore 5, 2) := by decide +kernel
theorem e26_10 : decode d26 10 = .ok (.iload 5, 2) := by decide +kernel
theorem e26_12 : decode d26 12 = .ok (.iload 4, 2) := by decide +kernel
theorem e26_14 : decode d26 14 = .ok (.if_icmp .ge 27, 3) := by decide +kernel
theorem e26_17 : decode d26 17 = .ok (.aload_n 2, 1) := by decide +kernel
theorem e26_18 : decode d26 18 = .ok (.iload_n 3, 1) := by decide +kernel
theorem e26_19 : decode d26 19 = .ok (.iinc 3 1, 3) := by decide +kernel
theorem e26_22 : decode d26 22 = .ok (.aload_n 0, 1) := by decide +kernel
theorem e26_23 : decode d26 23 = .ok (.iload_n 1, 1) := by decide +kernel
theorem e26_24 : decode d26 24 = .ok (.iinc 1 1, 3) := by decide +kernel
theorem e26_27 : decode d26 27 = .ok (.baload, 1) := by decide +kernel
theorem e26_28 : decode d26 28 = .ok (.sipush 255, 3) := by decide +kernel
theorem e26_31 : decode d26 31 = .ok (.iand, 1) := by decide +kernel
theorem e26_32 : decode d26 32 = .ok (.invokestatic 111, 3) := by decide +kernel
theorem e26_35 : decode d26 35 = .ok (.iinc 5 1, 3) := by decide +kernel
theorem e26_38 : decode d26 38 = .ok (.goto (-28), 3) := by decide +kernel
theorem e26_41 : decode d26 41 = .ok (.return_, 1) := by decide +kernel
theorem e27_0 : decode d27 0 = .ok (.aload_n 0, 1) := by decide +kernel
theorem e27_1 : decode d27 1 = .ok (.iload_n 1, 1) := by decide +kernel
theorem e27_2 : decode d27 2 = .ok (.aload_n 2, 1) := by decide +kernel
theorem e27_3 : decode d27 3 = .ok (.iload_n 3, 1) := by decide +kernel
theorem e27_4 : decode d27 4 = .ok (.iload 4, 2) := by decide +kernel
theorem e27_6 : decode d27 6 = .ok (.invokestatic 240, 3) := by decide +kernel
theorem e27_9 : decode d27 9 = .ok (.return_, 1) := by decide +kernel
theorem e28_0 : decode d28 0 = .ok (.iload_n 3, 1) := by decide +kernel
theorem e28_1 : decode d28 1 = .ok (.iload 4, 2) := by decide +kernel
theorem e28_3 : decode d28 3 = .ok (.if_icmp .ge 20, 3) := by decide +kernel
theorem e28_6 : decode d28 6 = .ok (.aload_n 0, 1) := by decide +kernel
theorem e28_7 : decode d28 7 = .ok (.iload_n 1, 1) := by decide +kernel
theorem e28_8 : decode d28 8 = .ok (.iinc 1 1, 3) := by decide +kernel
theorem e28_11 : decode d28 11 = .ok (.aload_n 2, 1) := by decide +kernel
theorem e28_12 : decode d28 12 = .ok (.iload_n 3, 1) := by decide +kernel
theorem e28_13 : decode d28 13 = .ok (.iinc 3 1, 3) := by decide +kernel
theorem e28_16 : decode d28 16 = .ok (.caload, 1) := by decide +kernel
theorem e28_17 : decode d28 17 = .ok (.invokestatic 111, 3) := by decide +kernel
theorem e28_20 : decode d28 20 = .ok (.goto (-20), 3) := by decide +kernel
theorem e28_23 : decode d28 23 = .ok (.return_, 1) := by decide +kernel
theorem e29_0 : decode d29 0 = .ok (.iload_n 1, 1) := by decide +kernel
theorem e29_1 : decode d29 1 = .ok (.iload_n 1, 1) := by decide +kernel
theorem e29_2 : decode d29 2 = .ok (.iload 4, 2) := by decide +kernel
theorem e29_4 : decode d29 4 = .ok (.iadd, 1) := by decide +kernel
theorem e29_5 : decode d29 5 = .ok (.iload_n 3, 1) := by decide +kernel
theorem e29_6 : decode d29 6 = .ok (.isub, 1) := by decide +kernel
theorem e29_7 : decode d29 7 = .ok (.aload_n 0, 1) := by decide +kernel
theorem e29_8 : decode d29 8 = .ok (.invokestatic 96, 3) := by decide +kernel
theorem e29_11 : decode d29 11 = .ok (.aload_n 0, 1) := by decide +kernel
theorem e29_12 : decode d29 12 = .ok (.iload_n 1, 1) := by decide +kernel
theorem e29_13 : decode d29 13 = .ok (.aload_n 2, 1) := by decide +kernel
theorem e29_14 : decode d29 14 = .ok (.iload_n 3, 1) := by decide +kernel
theorem e29_15 : decode d29 15 = .ok (.iload 4, 2) := by decide +kernel
theorem e29_17 : decode d29 17 = .ok (.invokestatic 384, 3) := by decide +kernel
theorem e29_20 : decode d29 20 = .ok (.return_, 1) := by decide +kernel
theorem e30_0 : decode d30 0 = .ok (.iload_n 1, 1) := by decide +kernel
theorem e30_1 : decode d30 1 = .ok (.aload_n 0, 1) := by decide +kernel
theorem e30_2 : decode d30 2 = .ok (.invokestatic 67, 3) := by decide +kernel
theorem e30_5 : decode d30 5 = .ok (.aload_n 0, 1) := by decide +kernel
theorem e30_6 : decode d30 6 = .ok (.iload_n 1, 1) := by decide +kernel
theorem e30_7 : decode d30 7 = .ok (.iload_n 2, 1) := by decide +kernel
theorem e30_8 : decode d30 8 = .ok (.invokestatic 111, 3) := by decide +kernel
theorem e30_11 : decode d30 11 = .ok (.return_, 1) := by decide +kernel
theorem e31_0 : decode d31 0 = .ok (.aload_n 0, 1) := by decide +kernel
theorem e31_1 : decode d31 1 = .ok (.getfield 15, 3) := by decide +kernel
theorem e31_4 : decode d31 4 = .ok (.arraylength, 1) := by decide +kernel
theorem e31_5 : decode d31 5 = .ok (.aload_n 0, 1) := by decide +kernel
theorem e31_6 : decode d31 6 = .ok (.getfield 22, 3) := by decide +kernel
theorem e31_9 : decode d31 9 = .ok (.ishr, 1) := by decide +kernel
theorem e31_10 : decode d31 10 = .ok (.istore_n 2, 1) := by decide +kernel
theorem e31_11 : decode d31 11 = .ok (.iload_n 1, 1) := by decide +kernel
theorem e31_12 : decode d31 12 = .ok (.iload_n 2, 1) := by decide +kernel
theorem e31_13 : decode d31 13 = .ok (.isub, 1) := by decide +kernel
theorem e31_14 : decode d31 14 = .ok (.ifCond .le 24, 3) := by decide +kernel
theorem e31_38 : decode d31 38 = .ok (.return_, 1) := by decide +kernel
theorem e32_0 : decode d32 0 = .ok (.aload_n 0, 1) := by decide +kernel
theorem e32_1 : decode d32 1 = .ok (.invokevirtual 83, 3) := by decide +kernel
theorem e33_0 : decode d33 0 = .ok (.getstatic 18, 3) := by decide +kernel
theorem e33_3 : decode d33 3 = .ok (.ifCond .eq 14, 3) := by decide +kernel
theorem e33_6 : decode d33 6 = .ok (.aload_n 0, 1) := by decide +kernel
theorem e33_7 : decode d33 7 = .ok (.getfield 22, 3) := by decide +kernel
theorem e33_10 : decode d33 10 = .ok (.ifCond .ne 7, 3) := by decide +kernel
theorem e33_13 : decode d33 13 = .ok (.iconst 1, 1) := by decide +kernel
theorem e33_14 : decode d33 14 = .ok (.goto 4, 3) := by decide +kernel
theorem e33_18 : decode d33 18 = .ok (.ireturn, 1) := by decide +kernel
theorem e32_4 : decode d32 4 = .ok (.ifCond .ne 4, 3) := by decide +kernel
theorem e32_8 : decode d32 8 = .ok (.aload_n 0, 1) := by decide +kernel
theorem e32_9 : decode d32 9 = .ok (.getfield 15, 3) := by decide +kernel
theorem e32_12 : decode d32 12 = .ok (.arraylength, 1) := by decide +kernel
theorem e32_13 : decode d32 13 = .ok (.invokestatic 26, 3) := by decide +kernel
theorem e32_16 : decode d32 16 = .ok (.astore_n 1, 1) := by decide +kernel
theorem e32_17 : decode d32 17 = .ok (.aload_n 0, 1) := by decide +kernel
theorem e32_18 : decode d32 18 = .ok (.getfield 15, 3) := by decide +kernel
theorem e32_21 : decode d32 21 = .ok (.iconst 0, 1) := by decide +kernel
theorem e32_22 : decode d32 22 = .ok (.aload_n 1, 1) := by decide +kernel
theorem e32_23 : decode d32 23 = .ok (.iconst 0, 1) := by decide +kernel
theorem e32_24 : decode d32 24 = .ok (.aload_n 0, 1) := by decide +kernel
theorem e32_25 : decode d32 25 = .ok (.getfield 79, 3) := by decide +kernel
theorem e32_28 : decode d32 28 = .ok (.invokestatic 125, 3) := by decide +kernel
theorem e32_31 : decode d32 31 = .ok (.aload_n 0, 1) := by decide +kernel
theorem e32_32 : decode d32 32 = .ok (.aload_n 1, 1) := by decide +kernel
theorem e32_33 : decode d32 33 = .ok (.putfield 15, 3) := by decide +kernel
theorem e32_36 : decode d32 36 = .ok (.aload_n 0, 1) := by decide +kernel
theorem e32_37 : decode d32 37 = .ok (.iconst 1, 1) := by decide +kernel
theorem e32_38 : decode d32 38 = .ok (.putfield 22, 3) := by decide +kernel
theorem e32_41 : decode d32 41 = .ok (.return_, 1) := by decide +kernel
theorem e34_0 : decode d34 0 = .ok (.aload_n 0, 1) := by decide +kernel
theorem e34_1 : decode d34 1 = .ok (.aload_n 0, 1) := by decide +kernel
theorem e34_2 : decode d34 2 = .ok (.getfield 79, 3) := by decide +kernel
theorem e34_5 : decode d34 5 = .ok (.iconst 1, 1) := by decide +kernel
theorem e34_6 : decode d34 6 = .ok (.iadd, 1) := by decide +kernel
theorem e34_7 : decode d34 7 = .ok (.invokevirtual 100, 3) := by decide +kernel
theorem e34_10 : decode d34 10 = .ok (.aload_n 0, 1) := by decide +kernel
theorem e34_11 : decode d34 11 = .ok (.invokevirtual 83, 3) := by decide +kernel
theorem e34_14 : decode d34 14 = .ok (.ifCond .eq 31, 3) := by decide +kernel
theorem e34_17 : decode d34 17 = .ok (.iload_n 1, 1) := by decide +kernel
theorem e34_18 : decode d34 18 = .ok (.invokestatic 191, 3) := by decide +kernel
theorem e35_0 : decode d35 0 = .ok (.iload_n 0, 1) := by decide +kernel
theorem e35_1 : decode d35 1 = .ok (.sipush 255, 3) := by decide +kernel
theorem e35_4 : decode d35 4 = .ok (.if_icmp .gt 7, 3) := by decide +kernel
theorem e35_11 : decode d35 11 = .ok (.iconst 0, 1) := by decide +kernel
theorem e35_12 : decode d35 12 = .ok (.ireturn, 1) := by decide +kernel
theorem e35_7 : decode d35 7 = .ok (.iconst 1, 1) := by decide +kernel
theorem e35_8 : decode d35 8 = .ok (.goto 4, 3) := by decide +kernel
theorem e34_21 : decode d34 21 = .ok (.ifCond .eq 24, 3) := by decide +kernel
theorem e34_45 : decode d34 45 = .ok (.aload_n 0, 1) := by decide +kernel
theorem e34_46 : decode d34 46 = .ok (.invokevirtual 83, 3) := by decide +kernel
theorem e34_49 : decode d34 49 = .ok (.ifCond .eq 7, 3) := by decide +kernel
theorem e34_52 : decode d34 52 = .ok (.aload_n 0, 1) := by decide +kernel
theorem e34_53 : decode d34 53 = .ok (.invokevirtual 195, 3) := by decide +kernel
theorem e34_56 : decode d34 56 = .ok (.aload_n 0, 1) := by decide +kernel
theorem e34_57 : decode d34 57 = .ok (.getfield 15, 3) := by decide +kernel
theorem e34_60 : decode d34 60 = .ok (.aload_n 0, 1) := by decide +kernel
theorem e34_61 : decode d34 61 = .ok (.dup, 1) := by decide +kernel
theorem e34_62 : decode d34 62 = .ok (.getfield 79, 3) := by decide +kernel
theorem e34_65 : decode d34 65 = .ok (.dup_x1, 1) := by decide +kernel
theorem e34_66 : decode d34 66 = .ok (.iconst 1, 1) := by decide +kernel
theorem e34_67 : decode d34 67 = .ok (.iadd, 1) := by decide +kernel
theorem e34_68 : decode d34 68 = .ok (.putfield 79, 3) := by decide +kernel
theorem e34_71 : decode d34 71 = .ok (.iload_n 1, 1) := by decide +kernel
theorem e34_72 : decode d34 72 = .ok (.invokestatic 197, 3) := by decide +kernel
theorem e34_75 : decode d34 75 = .ok (.aload_n 0, 1) := by decide +kernel
theorem e34_76 : decode d34 76 = .ok (.areturn, 1) := by decide +kernel
theorem e34_24 : decode d34 24 = .ok (.aload_n 0, 1) := by decide +kernel
theorem e34_25 : decode d34 25 = .ok (.getfield 15, 3) := by decide +kernel
theorem e34_28 : decode d34 28 = .ok (.aload_n 0, 1) := by decide +kernel
theorem e34_29 : decode d34 29 = .ok (.dup, 1) := by decide +kernel
theorem e34_30 : decode d34 30 = .ok (.getfield 79, 3) := by decide +kernel
theorem e34_33 : decode d34 33 = .ok (.dup_x1, 1) := by decide +kernel
theorem e34_34 : decode d34 34 = .ok (.iconst 1, 1) := by decide +kernel
theorem e34_35 : decode d34 35 = .ok (.iadd, 1) := by decide +kernel
theorem e34_36 : decode d34 36 = .ok (.putfield 79, 3) := by decide +kernel
theorem e34_39 : decode d34 39 = .ok (.iload_n 1, 1) := by decide +kernel
theorem e34_40 : decode d34 40 = .ok (.i2b, 1) := by decide +kernel
theorem e34_41 : decode d34 41 = .ok (.bastore, 1) := by decide +kernel
theorem e34_42 : decode d34 42 = .ok (.goto 33, 3) := by decide +kernel
theorem e33_17 : decode d33 17 = .ok (.iconst 0, 1) := by decide +kernel
theorem e36_0 : decode d36 0 = .ok (.aload_n 0, 1) := by decide +kernel
theorem e36_1 : decode d36 1 = .ok (.iload_n 1, 1) := by decide +kernel
theorem e36_2 : decode d36 2 = .ok (.invokespecial 50, 3) := by decide +kernel
theorem e36_5 : decode d36 5 = .ok (.pop, 1) := by decide +kernel
theorem e36_6 : decode d36 6 = .ok (.aload_n 0, 1) := by decide +kernel
theorem e36_7 : decode d36 7 = .ok (.areturn, 1) := by decide +kernel
theorem e37_0 : decode d37 0 = .ok (.aload_n 0, 1) := by decide +kernel
theorem e37_1 : decode d37 1 = .ok (.getfield 79, 3) := by decide +kernel
theorem e37_4 : decode d37 4 = .ok (.istore 4, 2) := by decide +kernel
theorem e37_6 : decode d37 6 = .ok (.aload_n 0, 1) := by decide +kernel
theorem e37_7 : decode d37 7 = .ok (.invokevirtual 83, 3) := by decide +kernel
theorem e37_10 : decode d37 10 = .ok (.ifCond .eq 97, 3) := by decide +kernel
theorem e37_13 : decode d37 13 = .ok (.aload_n 0, 1) := by decide +kernel
theorem e37_14 : decode d37 14 = .ok (.getfield 15, 3) := by decide +kernel
theorem e37_17 : decode d37 17 = .ok (.astore 5, 2) := by decide +kernel
theorem e37_19 : decode d37 19 = .ok (.iload_n 2, 1) := by decide +kernel
theorem e37_20 : decode d37 20 = .ok (.istore 6, 2) := by decide +kernel
theorem e37_22 : decode d37 22 = .ok (.iload 4, 2) := by decide +kernel
theorem e37_24 : decode d37 24 = .ok (.istore 7, 2) := by decide +kernel
theorem e37_26 : decode d37 26 = .ok (.iload 6, 2) := by decide +kernel
theorem e37_28 : decode d37 28 = .ok (.iload_n 3, 1) := by decide +kernel
theorem e37_29 : decode d37 29 = .ok (.if_icmp .ge 75, 3) := by decide +kernel
theorem e37_104 : decode d37 104 = .ok (.goto 15, 3) := by decide +kernel
theorem e37_119 : decode d37 119 = .ok (.aload_n 0, 1) := by decide +kernel
theorem e37_120 : decode d37 120 = .ok (.iload 4, 2) := by decide +kernel
theorem e37_122 : decode d37 122 = .ok (.iload_n 3, 1) := by decide +kernel
theorem e37_123 : decode d37 123 = .ok (.iadd, 1) := by decide +kernel
theorem e37_124 : decode d37 124 = .ok (.iload_n 2, 1) := by decide +kernel
theorem e37_125 : decode d37 125 = .ok (.isub, 1) := by decide +kernel
theorem e37_126 : decode d37 126 = .ok (.putfield 79, 3) := by decide +kernel
theorem e37_129 : decode d37 129 = .ok (.return_, 1) := by decide +kernel
theorem e37_107 : decode d37 107 = .ok (.aload_n 0, 1) := by decide +kernel
theorem e37_108 : decode d37 108 = .ok (.getfield 15, 3) := by decide +kernel
theorem e37_111 : decode d37 111 = .ok (.iload 4, 2) := by decide +kernel
theorem e37_113 : decode d37 113 = .ok (.aload_n 1, 1) := by decide +kernel
theorem e37_114 : decode d37 114 = .ok (.iload_n 2, 1) := by decide +kernel
theorem e37_115 : decode d37 115 = .ok (.iload_n 3, 1) := by decide +kernel
theorem e37_116 : decode d37 116 = .ok (.invokestatic 386, 3) := by decide +kernel
theorem e37_32 : decode d37 32 = .ok (.aload_n 1, 1) := by decide +kernel
theorem e37_33 : decode d37 33 = .ok (.iload 6, 2) := by decide +kernel
theorem e37_35 : decode d37 35 = .ok (.caload, 1) := by decide +kernel
theorem e37_36 : decode d37 36 = .ok (.istore 8, 2) := by decide +kernel
theorem e37_38 : decode d37 38 = .ok (.iload 8, 2) := by decide +kernel
theorem e37_40 : decode d37 40 = .ok (.invokestatic 191, 3) := by decide +kernel
theorem e37_43 : decode d37 43 = .ok (.ifCond .eq 17, 3) := by decide +kernel
theorem e37_60 : decode d37 60 = .ok (.aload_n 0, 1) := by decide +kernel
theorem e37_61 : decode d37 61 = .ok (.iload 7, 2) := by decide +kernel
theorem e37_63 : decode d37 63 = .ok (.dup, 1) := by decide +kernel
theorem e37_64 : decode d37 64 = .ok (.istore 4, 2) := by decide +kernel
theorem e37_66 : decode d37 66 = .ok (.putfield 79, 3) := by decide +kernel
theorem e37_69 : decode d37 69 = .ok (.aload_n 0, 1) := by decide +kernel
theorem e37_70 : decode d37 70 = .ok (.invokevirtual 195, 3) := by decide +kernel
theorem e37_73 : decode d37 73 = .ok (.aload_n 0, 1) := by decide +kernel
theorem e37_74 : decode d37 74 = .ok (.getfield 15, 3) := by decide +kernel
theorem e37_77 : decode d37 77 = .ok (.iload 7, 2) := by decide +kernel
theorem e37_79 : decode d37 79 = .ok (.aload_n 1, 1) := by decide +kernel
theorem e37_80 : decode d37 80 = .ok (.iload 6, 2) := by decide +kernel
theorem e37_82 : decode d37 82 = .ok (.iload_n 3, 1) := by decide +kernel
theorem e37_83 : decode d37 83 = .ok (.invokestatic 386, 3) := by decide +kernel
theorem e37_86 : decode d37 86 = .ok (.aload_n 0, 1) := by decide +kernel
theorem e37_87 : decode d37 87 = .ok (.iload 4, 2) := by decide +kernel
theorem e37_89 : decode d37 89 = .ok (.iload_n 3, 1) := by decide +kernel
theorem e37_90 : decode d37 90 = .ok (.iadd, 1) := by decide +kernel
theorem e37_91 : decode d37 91 = .ok (.iload 6, 2) := by decide +kernel
theorem e37_93 : decode d37 93 = .ok (.isub, 1) := by decide +kernel
theorem e37_94 : decode d37 94 = .ok (.putfield 79, 3) := by decide +kernel
theorem e37_97 : decode d37 97 = .ok (.return_, 1) := by decide +kernel
theorem e37_46 : decode d37 46 = .ok (.aload 5, 2) := by decide +kernel
theorem e37_48 : decode d37 48 = .ok (.iload 7, 2) := by decide +kernel
theorem e37_50 : decode d37 50 = .ok (.iinc 7 1, 3) := by decide +kernel
theorem e37_53 : decode d37 53 = .ok (.iload 8, 2) := by decide +kernel
theorem e37_55 : decode d37 55 = .ok (.i2b, 1) := by decide +kernel
theorem e37_56 : decode d37 56 = .ok (.bastore, 1) := by decide +kernel
theorem e37_57 : decode d37 57 = .ok (.goto 41, 3) := by decide +kernel
theorem e37_98 : decode d37 98 = .ok (.iinc 6 1, 3) := by decide +kernel
theorem e37_101 : decode d37 101 = .ok (.goto (-75), 3) := by decide +kernel
theorem e38_0 : decode d38 0 = .ok (.iload_n 2, 1) := by decide +kernel
theorem e38_1 : decode d38 1 = .ok (.iload_n 3, 1) := by decide +kernel
theorem e38_2 : decode d38 2 = .ok (.iadd, 1) := by decide +kernel
theorem e38_3 : decode d38 3 = .ok (.istore 4, 2) := by decide +kernel
theorem e38_5 : decode d38 5 = .ok (.iload_n 2, 1) := by decide +kernel
theorem e38_6 : decode d38 6 = .ok (.iload 4, 2) := by decide +kernel
theorem e38_8 : decode d38 8 = .ok (.aload_n 1, 1) := by decide +kernel
theorem e38_9 : decode d38 9 = .ok (.arraylength, 1) := by decide +kernel
theorem e38_10 : decode d38 10 = .ok (.getstatic 183, 3) := by decide +kernel
theorem e38_13 : decode d38 13 = .ok (.invokestatic 161, 3) := by decide +kernel
theorem e38_16 : decode d38 16 = .ok (.pop, 1) := by decide +kernel
theorem e38_17 : decode d38 17 = .ok (.aload_n 0, 1) := by decide +kernel
theorem e38_18 : decode d38 18 = .ok (.aload_n 0, 1) := by decide +kernel
theorem e38_19 : decode d38 19 = .ok (.getfield 79, 3) := by decide +kernel
theorem e38_22 : decode d38 22 = .ok (.iload_n 3, 1) := by decide +kernel
theorem e38_23 : decode d38 23 = .ok (.iadd, 1) := by decide +kernel
theorem e38_24 : decode d38 24 = .ok (.invokevirtual 100, 3) := by decide +kernel
theorem e38_27 : decode d38 27 = .ok (.aload_n 0, 1) := by decide +kernel
theorem e38_28 : decode d38 28 = .ok (.aload_n 1, 1) := by decide +kernel
theorem e38_29 : decode d38 29 = .ok (.iload_n 2, 1) := by decide +kernel
theorem e38_30 : decode d38 30 = .ok (.iload 4, 2) := by decide +kernel
theorem e38_32 : decode d38 32 = .ok (.invokevirtual 239, 3) := by decide +kernel
theorem e38_35 : decode d38 35 = .ok (.aload_n 0, 1) := by decide +kernel
theorem e38_36 : decode d38 36 = .ok (.areturn, 1) := by decide +kernel
theorem e39_0 : decode d39 0 = .ok (.aload_n 0, 1) := by decide +kernel
theorem e39_1 : decode d39 1 = .ok (.aload_n 1, 1) := by decide +kernel
theorem e39_2 : decode d39 2 = .ok (.iload_n 2, 1) := by decide +kernel
theorem e39_3 : decode d39 3 = .ok (.iload_n 3, 1) := by decide +kernel
theorem e39_4 : decode d39 4 = .ok (.invokespecial 44, 3) := by decide +kernel
theorem e39_7 : decode d39 7 = .ok (.pop, 1) := by decide +kernel
theorem e39_8 : decode d39 8 = .ok (.aload_n 0, 1) := by decide +kernel
theorem e39_9 : decode d39 9 = .ok (.areturn, 1) := by decide +kernel
theorem e40_0 : decode d40 0 = .ok (.aload_n 0, 1) := by decide +kernel
theorem e40_1 : decode d40 1 = .ok (.invokevirtual 335, 3) := by decide +kernel
theorem e40_4 : decode d40 4 = .ok (.iload_n 3, 1) := by decide +kernel
theorem e40_5 : decode d40 5 = .ok (.if_icmp .ne 23, 3) := by decide +kernel
theorem e40_8 : decode d40 8 = .ok (.aload_n 0, 1) := by decide +kernel
theorem e40_9 : decode d40 9 = .ok (.getfield 9, 3) := by decide +kernel
theorem e40_12 : decode d40 12 = .ok (.iconst 0, 1) := by decide +kernel
theorem e40_13 : decode d40 13 = .ok (.aload_n 1, 1) := by decide +kernel
theorem e40_14 : decode d40 14 = .ok (.iload_n 2, 1) := by decide +kernel
theorem e40_15 : decode d40 15 = .ok (.iload_n 3, 1) := by decide +kernel
theorem e40_16 : decode d40 16 = .ok (.ishl, 1) := by decide +kernel
theorem e40_17 : decode d40 17 = .ok (.aload_n 0, 1) := by decide +kernel
theorem e40_18 : decode d40 18 = .ok (.getfield 9, 3) := by decide +kernel
theorem e40_21 : decode d40 21 = .ok (.arraylength, 1) := by decide +kernel
theorem e40_22 : decode d40 22 = .ok (.invokestatic 212, 3) := by decide +kernel
theorem e40_25 : decode d40 25 = .ok (.goto 18, 3) := by decide +kernel
theorem e40_43 : decode d40 43 = .ok (.return_, 1) := by decide +kernel
theorem e40_28 : decode d40 28 = .ok (.aload_n 0, 1) := by decide +kernel
theorem e40_29 : decode d40 29 = .ok (.getfield 9, 3) := by decide +kernel
theorem e40_32 : decode d40 32 = .ok (.iconst 0, 1) := by decide +kernel
theorem e40_33 : decode d40 33 = .ok (.aload_n 1, 1) := by decide +kernel
theorem e40_34 : decode d40 34 = .ok (.iload_n 2, 1) := by decide +kernel
theorem e40_35 : decode d40 35 = .ok (.aload_n 0, 1) := by decide +kernel
theorem e40_36 : decode d40 36 = .ok (.getfield 9, 3) := by decide +kernel
theorem e40_39 : decode d40 39 = .ok (.arraylength, 1) := by decide +kernel
theorem e40_40 : decode d40 40 = .ok (.invokestatic 106, 3) := by decide +kernel
theorem e41_0 : decode d41 0 = .ok (.getstatic 18, 3) := by decide +kernel
theorem e41_3 : decode d41 3 = .ok (.ifCond .eq 18, 3) := by decide +kernel
theorem e41_6 : decode d41 6 = .ok (.aload_n 0, 1) := by decide +kernel
theorem e41_7 : decode d41 7 = .ok (.getfield 22, 3) := by decide +kernel
theorem e41_10 : decode d41 10 = .ok (.aload_n 1, 1) := by decide +kernel
theorem e41_11 : decode d41 11 = .ok (.invokevirtual 40, 3) := by decide +kernel
theorem e41_14 : decode d41 14 = .ok (.if_icmp .eq 7, 3) := by decide +kernel
theorem e41_17 : decode d41 17 = .ok (.aload_n 0, 1) := by decide +kernel
theorem e41_18 : decode d41 18 = .ok (.invokevirtual 195, 3) := by decide +kernel
theorem e41_21 : decode d41 21 = .ok (.return_, 1) := by decide +kernel
theorem e42_0 : decode d42 0 = .ok (.aload_n 0, 1) := by decide +kernel
theorem e42_1 : decode d42 1 = .ok (.aload_n 2, 1) := by decide +kernel
theorem e42_2 : decode d42 2 = .ok (.invokevirtual 397, 3) := by decide +kernel
theorem e42_5 : decode d42 5 = .ok (.aload_n 2, 1) := by decide +kernel
theorem e42_6 : decode d42 6 = .ok (.aload_n 0, 1) := by decide +kernel
theorem e42_7 : decode d42 7 = .ok (.getfield 15, 3) := by decide +kernel
theorem e42_10 : decode d42 10 = .ok (.iload_n 1, 1) := by decide +kernel
theorem e42_11 : decode d42 11 = .ok (.aload_n 0, 1) := by decide +kernel
theorem e42_12 : decode d42 12 = .ok (.getfield 22, 3) := by decide +kernel
theorem e42_15 : decode d42 15 = .ok (.invokevirtual 399, 3) := by decide +kernel
theorem e42_18 : decode d42 18 = .ok (.return_, 1) := by decide +kernel
theorem e32_7 : decode d32 7 = .ok (.return_, 1) := by decide +kernel
theorem e43_0 : decode d43 0 = .ok (.aload_n 1, 1) := by decide +kernel
theorem e43_1 : decode d43 1 = .ok (.ifnonnull 8, 3) := by decide +kernel
theorem e43_9 : decode d43 9 = .ok (.aload_n 1, 1) := by decide +kernel
theorem e43_10 : decode d43 10 = .ok (.invokevirtual 32, 3) := by decide +kernel
theorem e43_13 : decode d43 13 = .ok (.istore_n 2, 1) := by decide +kernel
theorem e43_14 : decode d43 14 = .ok (.aload_n 0, 1) := by decide +kernel
theorem e43_15 : decode d43 15 = .ok (.aload_n 0, 1) := by decide +kernel
theorem e43_16 : decode d43 16 = .ok (.getfield 79, 3) := by decide +kernel
theorem e43_19 : decode d43 19 = .ok (.iload_n 2, 1) := by decide +kernel
theorem e43_20 : decode d43 20 = .ok (.iadd, 1) := by decide +kernel
theorem e43_21 : decode d43 21 = .ok (.invokevirtual 100, 3) := by decide +kernel
theorem e43_24 : decode d43 24 = .ok (.aload_n 0, 1) := by decide +kernel
theorem e43_25 : decode d43 25 = .ok (.aload_n 0, 1) := by decide +kernel
theorem e43_26 : decode d43 26 = .ok (.getfield 79, 3) := by decide +kernel
theorem e43_29 : decode d43 29 = .ok (.aload_n 1, 1) := by decide +kernel
theorem e43_30 : decode d43 30 = .ok (.invokevirtual 208, 3) := by decide +kernel
theorem e43_33 : decode d43 33 = .ok (.aload_n 0, 1) := by decide +kernel
theorem e43_34 : decode d43 34 = .ok (.dup, 1) := by decide +kernel
theorem e43_35 : decode d43 35 = .ok (.getfield 79, 3) := by decide +kernel
theorem e43_38 : decode d43 38 = .ok (.iload_n 2, 1) := by decide +kernel
theorem e43_39 : decode d43 39 = .ok (.iadd, 1) := by decide +kernel
theorem e43_40 : decode d43 40 = .ok (.putfield 79, 3) := by decide +kernel
theorem e43_43 : decode d43 43 = .ok (.aload_n 0, 1) := by decide +kernel
theorem e43_44 : decode d43 44 = .ok (.areturn, 1) := by decide +kernel
theorem e44_0 : decode d44 0 = .ok (.aload_n 0, 1) := by decide +kernel
theorem e44_1 : decode d44 1 = .ok (.aload_n 1, 1) := by decide +kernel
theorem e44_2 : decode d44 2 = .ok (.invokespecial 29, 3) := by decide +kernel
theorem e44_5 : decode d44 5 = .ok (.pop, 1) := by decide +kernel
theorem e44_6 : decode d44 6 = .ok (.aload_n 0, 1) := by decide +kernel
theorem e44_7 : decode d44 7 = .ok (.areturn, 1) := by decide +kernel
theorem e45_0 : decode d45 0 = .ok (.aload_n 0, 1) := by decide +kernel
theorem e45_1 : decode d45 1 = .ok (.getfield 34, 3) := by decide +kernel
theorem e45_4 : decode d45 4 = .ok (.ifnonnull 38, 3) := by decide +kernel
theorem e45_7 : decode d45 7 = .ok (.aload_n 0, 1) := by decide +kernel
theorem e45_8 : decode d45 8 = .ok (.new 14, 3) := by decide +kernel
theorem e45_11 : decode d45 11 = .ok (.dup, 1) := by decide +kernel
theorem e45_12 : decode d45 12 = .ok (.invokespecial 50, 3) := by decide +kernel
theorem e46_0 : decode d46 0 = .ok (.aload_n 0, 1) := by decide +kernel
theorem e46_1 : decode d46 1 = .ok (.bipush 16, 2) := by decide +kernel
theorem e46_3 : decode d46 3 = .ok (.invokespecial 1, 3) := by decide +kernel
theorem e47_0 : decode d47 0 = .ok (.aload_n 0, 1) := by decide +kernel
theorem e47_1 : decode d47 1 = .ok (.invokespecial 3, 3) := by decide +kernel
theorem e47_4 : decode d47 4 = .ok (.getstatic 18, 3) := by decide +kernel
theorem e47_7 : decode d47 7 = .ok (.ifCond .eq 18, 3) := by decide +kernel
theorem e47_10 : decode d47 10 = .ok (.aload_n 0, 1) := by decide +kernel
theorem e47_11 : decode d47 11 = .ok (.iload_n 1, 1) := by decide +kernel
theorem e47_12 : decode d47 12 = .ok (.newarray .byte, 2) := by decide +kernel
theorem e47_14 : decode d47 14 = .ok (.putfield 15, 3) := by decide +kernel
theorem e47_17 : decode d47 17 = .ok (.aload_n 0, 1) := by decide +kernel
theorem e47_18 : decode d47 18 = .ok (.iconst 0, 1) := by decide +kernel
theorem e47_19 : decode d47 19 = .ok (.putfield 22, 3) := by decide +kernel
theorem e47_22 : decode d47 22 = .ok (.goto 16, 3) := by decide +kernel
theorem e47_38 : decode d47 38 = .ok (.return_, 1) := by decide +kernel
theorem e46_6 : decode d46 6 = .ok (.return_, 1) := by decide +kernel
theorem e45_15 : decode d45 15 = .ok (.putfield 34, 3) := by decide +kernel
theorem e45_18 : decode d45 18 = .ok (.aload_n 0, 1) := by decide +kernel
theorem e45_19 : decode d45 19 = .ok (.getfield 30, 3) := by decide +kernel
theorem e45_22 : decode d45 22 = .ok (.ifnull 15, 3) := by decide +kernel
theorem e45_37 : decode d45 37 = .ok (.aload_n 0, 1) := by decide +kernel
theorem e45_38 : decode d45 38 = .ok (.aconst_null, 1) := by decide +kernel
theorem e45_39 : decode d45 39 = .ok (.putfield 30, 3) := by decide +kernel
theorem e45_42 : decode d45 42 = .ok (.aload_n 0, 1) := by decide +kernel
theorem e45_43 : decode d45 43 = .ok (.getfield 34, 3) := by decide +kernel
theorem e45_46 : decode d45 46 = .ok (.areturn, 1) := by decide +kernel
theorem e45_25 : decode d45 25 = .ok (.aload_n 0, 1) := by decide +kernel
theorem e45_26 : decode d45 26 = .ok (.getfield 34, 3) := by decide +kernel
theorem e45_29 : decode d45 29 = .ok (.aload_n 0, 1) := by decide +kernel
theorem e45_30 : decode d45 30 = .ok (.getfield 30, 3) := by decide +kernel
theorem e45_33 : decode d45 33 = .ok (.invokevirtual 38, 3) := by decide +kernel
theorem e45_36 : decode d45 36 = .ok (.pop, 1) := by decide +kernel
theorem e48_0 : decode d48 0 = .ok (.aload_n 0, 1) := by decide +kernel
theorem e48_1 : decode d48 1 = .ok (.invokevirtual 7, 3) := by decide +kernel
theorem e48_4 : decode d48 4 = .ok (.iload_n 1, 1) := by decide +kernel
theorem e48_5 : decode d48 5 = .ok (.i2c, 1) := by decide +kernel
theorem e48_6 : decode d48 6 = .ok (.invokevirtual 13, 3) := by decide +kernel
theorem e48_9 : decode d48 9 = .ok (.pop, 1) := by decide +kernel
theorem e48_10 : decode d48 10 = .ok (.return_, 1) := by decide +kernel
theorem e49_0 : decode d49 0 = .ok (.aload_n 0, 1) := by decide +kernel
theorem e49_1 : decode d49 1 = .ok (.invokevirtual 7, 3) := by decide +kernel
theorem e49_4 : decode d49 4 = .ok (.aload_n 1, 1) := by decide +kernel
theorem e49_5 : decode d49 5 = .ok (.iload_n 2, 1) := by decide +kernel
theorem e49_6 : decode d49 6 = .ok (.iload_n 3, 1) := by decide +kernel
theorem e49_7 : decode d49 7 = .ok (.invokevirtual 19, 3) := by decide +kernel
theorem e49_10 : decode d49 10 = .ok (.pop, 1) := by decide +kernel
theorem e49_11 : decode d49 11 = .ok (.return_, 1) := by decide +kernel
theorem e50_0 : decode d50 0 = .ok (.aload_n 1, 1) := by decide +kernel
theorem e50_1 : decode d50 1 = .ok (.ldc 22, 2) := by decide +kernel
theorem e50_3 : decode d50 3 = .ok (.invokestatic 24, 3) := by decide +kernel
theorem e51_0 : decode d51 0 = .ok (.aload_n 0, 1) := by decide +kernel
theorem e51_1 : decode d51 1 = .ok (.ifnonnull 12, 3) := by decide +kernel
theorem e51_13 : decode d51 13 = .ok (.aload_n 0, 1) := by decide +kernel
theorem e51_14 : decode d51 14 = .ok (.areturn, 1) := by decide +kernel
theorem e50_6 : decode d50 6 = .ok (.pop, 1) := by decide +kernel
theorem e50_7 : decode d50 7 = .ok (.aload_n 0, 1) := by decide +kernel
theorem e50_8 : decode d50 8 = .ok (.getfield 30, 3) := by decide +kernel
theorem e50_11 : decode d50 11 = .ok (.ifnonnull 18, 3) := by decide +kernel
theorem e50_14 : decode d50 14 = .ok (.aload_n 0, 1) := by decide +kernel
theorem e50_15 : decode d50 15 = .ok (.getfield 34, 3) := by decide +kernel
theorem e50_18 : decode d50 18 = .ok (.ifnonnull 11, 3) := by decide +kernel
theorem e50_21 : decode d50 21 = .ok (.aload_n 0, 1) := by decide +kernel
theorem e50_22 : decode d50 22 = .ok (.aload_n 1, 1) := by decide +kernel
theorem e50_23 : decode d50 23 = .ok (.putfield 30, 3) := by decide +kernel
theorem e50_26 : decode d50 26 = .ok (.goto 12, 3) := by decide +kernel
theorem e50_38 : decode d50 38 = .ok (.return_, 1) := by decide +kernel
theorem e50_29 : decode d50 29 = .ok (.aload_n 0, 1) := by decide +kernel
theorem e50_30 : decode d50 30 = .ok (.invokevirtual 7, 3) := by decide +kernel
theorem e50_33 : decode d50 33 = .ok (.aload_n 1, 1) := by decide +kernel
theorem e50_34 : decode d50 34 = .ok (.invokevirtual 38, 3) := by decide +kernel
theorem e50_37 : decode d50 37 = .ok (.pop, 1) := by decide +kernel
theorem e52_0 : decode d52 0 = .ok (.iload_n 3, 1) := by decide +kernel
theorem e52_1 : decode d52 1 = .ok (.iconst 1, 1) := by decide +kernel
theorem e52_2 : decode d52 2 = .ok (.if_icmp .ne 19, 3) := by decide +kernel
theorem e52_5 : decode d52 5 = .ok (.aload_n 0, 1) := by decide +kernel
theorem e52_6 : decode d52 6 = .ok (.iload 5, 2) := by decide +kernel
theorem e52_8 : decode d52 8 = .ok (.invokevirtual 41, 3) := by decide +kernel
theorem e52_11 : decode d52 11 = .ok (.aload_n 1, 1) := by decide +kernel
theorem e52_12 : decode d52 12 = .ok (.iload_n 2, 1) := by decide +kernel
theorem e52_13 : decode d52 13 = .ok (.iload 5, 2) := by decide +kernel
theorem e52_15 : decode d52 15 = .ok (.i2c, 1) := by decide +kernel
theorem e52_16 : decode d52 16 = .ok (.castore, 1) := by decide +kernel
theorem e52_17 : decode d52 17 = .ok (.iload_n 2, 1) := by decide +kernel
theorem e52_18 : decode d52 18 = .ok (.iconst 1, 1) := by decide +kernel
theorem e52_19 : decode d52 19 = .ok (.iadd, 1) := by decide +kernel
theorem e52_20 : decode d52 20 = .ok (.ireturn, 1) := by decide +kernel
theorem e52_21 : decode d52 21 = .ok (.iload_n 3, 1) := by decide +kernel
theorem e52_22 : decode d52 22 = .ok (.iconst 2, 1) := by decide +kernel
theorem e52_23 : decode d52 23 = .ok (.if_icmp .ne 50, 3) := by decide +kernel
theorem e52_73 : decode d52 73 = .ok (.iload_n 3, 1) := by decide +kernel
theorem e52_74 : decode d52 74 = .ok (.iconst 3, 1) := by decide +kernel
theorem e52_75 : decode d52 75 = .ok (.if_icmp .ne 85, 3) := by decide +kernel
theorem e52_78 : decode d52 78 = .ok (.iload 4, 2) := by decide +kernel
theorem e52_80 : decode d52 80 = .ok (.iconst 1, 1) := by decide +kernel
theorem e52_81 : decode d52 81 = .ok (.if_icmp .ne 7, 3) := by decide +kernel
theorem e52_84 : decode d52 84 = .ok (.iconst 1, 1) := by decide +kernel
theorem e52_85 : decode d52 85 = .ok (.goto 4, 3) := by decide +kernel
theorem e52_89 : decode d52 89 = .ok (.istore 8, 2) := by decide +kernel
theorem e52_91 : decode d52 91 = .ok (.iload 4, 2) := by decide +kernel
theorem e52_93 : decode d52 93 = .ok (.ifCond .ne 7, 3) := by decide +kernel
theorem e52_100 : decode d52 100 = .ok (.iload 4, 2) := by decide +kernel
theorem e52_102 : decode d52 102 = .ok (.iconst 2, 1) := by decide +kernel
theorem e52_103 : decode d52 103 = .ok (.if_icmp .ne 7, 3) := by decide +kernel
theorem e52_110 : decode d52 110 = .ok (.iconst 1, 1) := by decide +kernel
theorem e52_111 : decode d52 111 = .ok (.istore 9, 2) := by decide +kernel
theorem e52_113 : decode d52 113 = .ok (.aload_n 0, 1) := by decide +kernel
theorem e52_114 : decode d52 114 = .ok (.aload 7, 2) := by decide +kernel
theorem e52_116 : decode d52 116 = .ok (.iload 8, 2) := by decide +kernel
theorem e52_118 : decode d52 118 = .ok (.iload 9, 2) := by decide +kernel
theorem e52_120 : decode d52 120 = .ok (.invokevirtual 48, 3) := by decide +kernel
theorem e52_123 : decode d52 123 = .ok (.iload 9, 2) := by decide +kernel
theorem e52_125 : decode d52 125 = .ok (.iconst 1, 1) := by decide +kernel
theorem e52_126 : decode d52 126 = .ok (.if_icmp .lt 11, 3) := by decide +kernel
theorem e52_129 : decode d52 129 = .ok (.aload_n 1, 1) := by decide +kernel
theorem e52_130 : decode d52 130 = .ok (.iload_n 2, 1) := by decide +kernel
theorem e52_131 : decode d52 131 = .ok (.aload 7, 2) := by decide +kernel
theorem e52_133 : decode d52 133 = .ok (.iload 8, 2) := by decide +kernel
theorem e52_135 : decode d52 135 = .ok (.caload, 1) := by decide +kernel
theorem e52_136 : decode d52 136 = .ok (.castore, 1) := by decide +kernel
theorem e52_137 : decode d52 137 = .ok (.iload 9, 2) := by decide +kernel
theorem e52_139 : decode d52 139 = .ok (.iconst 2, 1) := by decide +kernel
theorem e52_140 : decode d52 140 = .ok (.if_icmp .lt 15, 3) := by decide +kernel
theorem e52_155 : decode d52 155 = .ok (.iload_n 2, 1) := by decide +kernel
theorem e52_156 : decode d52 156 = .ok (.iload 9, 2) := by decide +kernel
theorem e52_158 : decode d52 158 = .ok (.iadd, 1) := by decide +kernel
theorem e52_159 : decode d52 159 = .ok (.ireturn, 1) := by decide +kernel
theorem e52_88 : decode d52 88 = .ok (.iconst 0, 1) := by decide +kernel
theorem e52_96 : decode d52 96 = .ok (.iconst 0, 1) := by decide +kernel
theorem e52_97 : decode d52 97 = .ok (.goto 14, 3) := by decide +kernel
theorem e52_106 : decode d52 106 = .ok (.iconst 2, 1) := by decide +kernel
theorem e52_107 : decode d52 107 = .ok (.goto 4, 3) := by decide +kernel
theorem e52_143 : decode d52 143 = .ok (.aload_n 1, 1) := by decide +kernel
theorem e52_144 : decode d52 144 = .ok (.iload_n 2, 1) := by decide +kernel
theorem e52_145 : decode d52 145 = .ok (.iconst 1, 1) := by decide +kernel
theorem e52_146 : decode d52 146 = .ok (.iadd, 1) := by decide +kernel
theorem e52_147 : decode d52 147 = .ok (.aload 7, 2) := by decide +kernel
theorem e52_149 : decode d52 149 = .ok (.iload 8, 2) := by decide +kernel
theorem e52_151 : decode d52 151 = .ok (.iconst 1, 1) := by decide +kernel
theorem e52_152 : decode d52 152 = .ok (.iadd, 1) := by decide +kernel
theorem e52_153 : decode d52 153 = .ok (.caload, 1) := by decide +kernel
theorem e52_154 : decode d52 154 = .ok (.castore, 1) := by decide +kernel
theorem e52_26 : decode d52 26 = .ok (.aload_n 0, 1) := by decide +kernel
theorem e52_27 : decode d52 27 = .ok (.aload 6, 2) := by decide +kernel
theorem e52_29 : decode d52 29 = .ok (.invokevirtual 45, 3) := by decide +kernel
theorem e52_32 : decode d52 32 = .ok (.aload 6, 2) := by decide +kernel
theorem e52_34 : decode d52 34 = .ok (.invokevirtual 28, 3) := by decide +kernel
theorem e52_37 : decode d52 37 = .ok (.istore 8, 2) := by decide +kernel
theorem e52_39 : decode d52 39 = .ok (.iload 8, 2) := by decide +kernel
theorem e52_41 : decode d52 41 = .ok (.iconst 1, 1) := by decide +kernel
theorem e52_42 : decode d52 42 = .ok (.if_icmp .lt 9, 3) := by decide +kernel
theorem e52_51 : decode d52 51 = .ok (.iload 8, 2) := by decide +kernel
theorem e52_53 : decode d52 53 = .ok (.iconst 2, 1) := by decide +kernel
theorem e52_54 : decode d52 54 = .ok (.if_icmp .lt 14, 3) := by decide +kernel
theorem e52_68 : decode d52 68 = .ok (.iload_n 2, 1) := by decide +kernel
theorem e52_69 : decode d52 69 = .ok (.iload 8, 2) := by decide +kernel
theorem e52_71 : decode d52 71 = .ok (.iadd, 1) := by decide +kernel
theorem e52_72 : decode d52 72 = .ok (.ireturn, 1) := by decide +kernel
theorem e52_45 : decode d52 45 = .ok (.aload_n 1, 1) := by decide +kernel
theorem e52_46 : decode d52 46 = .ok (.iload_n 2, 1) := by decide +kernel
theorem e52_47 : decode d52 47 = .ok (.iload 5, 2) := by decide +kernel
theorem e52_49 : decode d52 49 = .ok (.i2c, 1) := by decide +kernel
theorem e52_50 : decode d52 50 = .ok (.castore, 1) := by decide +kernel
theorem e52_57 : decode d52 57 = .ok (.aload_n 1, 1) := by decide +kernel
theorem e52_58 : decode d52 58 = .ok (.iload_n 2, 1) := by decide +kernel
theorem e52_59 : decode d52 59 = .ok (.iconst 1, 1) := by decide +kernel
theorem e52_60 : decode d52 60 = .ok (.iadd, 1) := by decide +kernel
theorem e52_61 : decode d52 61 = .ok (.iload 5, 2) := by decide +kernel
theorem e52_63 : decode d52 63 = .ok (.bipush 16, 2) := by decide +kernel
theorem e52_65 : decode d52 65 = .ok (.iushr, 1) := by decide +kernel
theorem e52_66 : decode d52 66 = .ok (.i2c, 1) := by decide +kernel
theorem e52_67 : decode d52 67 = .ok (.castore, 1) := by decide +kernel
theorem e52_160 : decode d52 160 = .ok (.iload_n 2, 1) := by decide +kernel
theorem e52_161 : decode d52 161 = .ok (.ireturn, 1) := by decide +kernel
theorem e53_0 : decode d53 0 = .ok (.iload_n 0, 1) := by decide +kernel
theorem e53_1 : decode d53 1 = .ok (.iload_n 1, 1) := by decide +kernel
theorem e53_2 : decode d53 2 = .ok (.if_icmp .gt 7, 3) := by decide +kernel
theorem e53_9 : decode d53 9 = .ok (.iload_n 1, 1) := by decide +kernel
theorem e53_10 : decode d53 10 = .ok (.ireturn, 1) := by decide +kernel
theorem e53_5 : decode d53 5 = .ok (.iload_n 0, 1) := by decide +kernel
theorem e53_6 : decode d53 6 = .ok (.goto 4, 3) := by decide +kernel
theorem e54_0 : decode d54 0 = .ok (.iload_n 1, 1) := by decide +kernel
theorem e54_1 : decode d54 1 = .ok (.iload_n 2, 1) := by decide +kernel
theorem e54_2 : decode d54 2 = .ok (.invokestatic 343, 3) := by decide +kernel
theorem e55_0 : decode d55 0 = .ok (.iload_n 1, 1) := by decide +kernel
theorem e55_1 : decode d55 1 = .ok (.iload_n 0, 1) := by decide +kernel
theorem e55_2 : decode d55 2 = .ok (.if_icmp .ge 35, 3) := by decide +kernel
theorem e55_37 : decode d55 37 = .ok (.return_, 1) := by decide +kernel
theorem e54_5 : decode d54 5 = .ok (.iload_n 2, 1) := by decide +kernel
theorem e54_6 : decode d54 6 = .ok (.iload_n 1, 1) := by decide +kernel
theorem e54_7 : decode d54 7 = .ok (.isub, 1) := by decide +kernel
theorem e54_8 : decode d54 8 = .ok (.istore_n 3, 1) := by decide +kernel
theorem e54_9 : decode d54 9 = .ok (.iload_n 3, 1) := by decide +kernel
theorem e54_10 : decode d54 10 = .ok (.newarray .byte, 2) := by decide +kernel
theorem e54_12 : decode d54 12 = .ok (.astore 4, 2) := by decide +kernel
theorem e54_14 : decode d54 14 = .ok (.aload_n 0, 1) := by decide +kernel
theorem e54_15 : decode d54 15 = .ok (.iload_n 1, 1) := by decide +kernel
theorem e54_16 : decode d54 16 = .ok (.aload 4, 2) := by decide +kernel
theorem e54_18 : decode d54 18 = .ok (.iconst 0, 1) := by decide +kernel
theorem e54_19 : decode d54 19 = .ok (.aload_n 0, 1) := by decide +kernel
theorem e54_20 : decode d54 20 = .ok (.arraylength, 1) := by decide +kernel
theorem e54_21 : decode d54 21 = .ok (.iload_n 1, 1) := by decide +kernel
theorem e54_22 : decode d54 22 = .ok (.isub, 1) := by decide +kernel
theorem e54_23 : decode d54 23 = .ok (.iload_n 3, 1) := by decide +kernel
theorem e54_24 : decode d54 24 = .ok (.invokestatic 304, 3) := by decide +kernel
theorem e54_27 : decode d54 27 = .ok (.invokestatic 150, 3) := by decide +kernel
theorem e54_30 : decode d54 30 = .ok (.aload 4, 2) := by decide +kernel
theorem e54_32 : decode d54 32 = .ok (.areturn, 1) := by decide +kernel
theorem e56_0 : decode d56 0 = .ok (.iload_n 1, 1) := by decide +kernel
theorem e56_1 : decode d56 1 = .ok (.ifCond .ne 9, 3) := by decide +kernel
theorem e56_4 : decode d56 4 = .ok (.iload_n 2, 1) := by decide +kernel
theorem e56_5 : decode d56 5 = .ok (.aload_n 0, 1) := by decide +kernel
theorem e56_6 : decode d56 6 = .ok (.arraylength, 1) := by decide +kernel
theorem e56_7 : decode d56 7 = .ok (.if_icmp .eq 10, 3) := by decide +kernel
theorem e56_10 : decode d56 10 = .ok (.aload_n 0, 1) := by decide +kernel
theorem e56_11 : decode d56 11 = .ok (.iload_n 1, 1) := by decide +kernel
theorem e56_12 : decode d56 12 = .ok (.iload_n 2, 1) := by decide +kernel
theorem e56_13 : decode d56 13 = .ok (.invokestatic 339, 3) := by decide +kernel
theorem e56_16 : decode d56 16 = .ok (.areturn, 1) := by decide +kernel
theorem e57_0 : decode d57 0 = .ok (.iload_n 1, 1) := by decide +kernel
theorem e57_1 : decode d57 1 = .ok (.ifCond .ne 14, 3) := by decide +kernel
theorem e57_4 : decode d57 4 = .ok (.new 29, 3) := by decide +kernel
theorem e57_7 : decode d57 7 = .ok (.dup, 1) := by decide +kernel
theorem e57_8 : decode d57 8 = .ok (.iconst 0, 1) := by decide +kernel
theorem e57_9 : decode d57 9 = .ok (.newarray .char, 2) := by decide +kernel
theorem e57_11 : decode d57 11 = .ok (.invokespecial 38, 3) := by decide +kernel
theorem e57_14 : decode d57 14 = .ok (.areturn, 1) := by decide +kernel
theorem e57_15 : decode d57 15 = .ok (.iload_n 1, 1) := by decide +kernel
theorem e57_16 : decode d57 16 = .ok (.iconst 1, 1) := by decide +kernel
theorem e57_17 : decode d57 17 = .ok (.if_icmp .ne 21, 3) := by decide +kernel
theorem e57_20 : decode d57 20 = .ok (.iconst 1, 1) := by decide +kernel
theorem e57_21 : decode d57 21 = .ok (.newarray .char, 2) := by decide +kernel
theorem e57_23 : decode d57 23 = .ok (.astore_n 2, 1) := by decide +kernel
theorem e57_24 : decode d57 24 = .ok (.aload_n 2, 1) := by decide +kernel
theorem e57_25 : decode d57 25 = .ok (.iconst 0, 1) := by decide +kernel
theorem e57_26 : decode d57 26 = .ok (.iload_n 0, 1) := by decide +kernel
theorem e57_27 : decode d57 27 = .ok (.i2c, 1) := by decide +kernel
theorem e57_28 : decode d57 28 = .ok (.castore, 1) := by decide +kernel
theorem e57_29 : decode d57 29 = .ok (.new 29, 3) := by decide +kernel
theorem e57_32 : decode d57 32 = .ok (.dup, 1) := by decide +kernel
theorem e57_33 : decode d57 33 = .ok (.aload_n 2, 1) := by decide +kernel
theorem e57_34 : decode d57 34 = .ok (.invokespecial 38, 3) := by decide +kernel
theorem e57_37 : decode d57 37 = .ok (.areturn, 1) := by decide +kernel
theorem e57_38 : decode d57 38 = .ok (.iconst 2, 1) := by decide +kernel
theorem e57_39 : decode d57 39 = .ok (.newarray .char, 2) := by decide +kernel
theorem e57_41 : decode d57 41 = .ok (.astore_n 2, 1) := by decide +kernel
theorem e57_42 : decode d57 42 = .ok (.aload_n 2, 1) := by decide +kernel
theorem e57_43 : decode d57 43 = .ok (.iconst 0, 1) := by decide +kernel
theorem e57_44 : decode d57 44 = .ok (.iload_n 0, 1) := by decide +kernel
theorem e57_45 : decode d57 45 = .ok (.i2c, 1) := by decide +kernel
theorem e57_46 : decode d57 46 = .ok (.castore, 1) := by decide +kernel
theorem e57_47 : decode d57 47 = .ok (.aload_n 2, 1) := by decide +kernel
theorem e57_48 : decode d57 48 = .ok (.iconst 1, 1) := by decide +kernel
theorem e57_49 : decode d57 49 = .ok (.iload_n 0, 1) := by decide +kernel
theorem e57_50 : decode d57 50 = .ok (.bipush 16, 2) := by decide +kernel
theorem e57_52 : decode d57 52 = .ok (.iushr, 1) := by decide +kernel
theorem e57_53 : decode d57 53 = .ok (.i2c, 1) := by decide +kernel
theorem e57_54 : decode d57 54 = .ok (.castore, 1) := by decide +kernel
theorem e57_55 : decode d57 55 = .ok (.new 29, 3) := by decide +kernel
theorem e57_58 : decode d57 58 = .ok (.dup, 1) := by decide +kernel
theorem e57_59 : decode d57 59 = .ok (.aload_n 2, 1) := by decide +kernel
theorem e57_60 : decode d57 60 = .ok (.invokespecial 38, 3) := by decide +kernel
theorem e57_63 : decode d57 63 = .ok (.areturn, 1) := by decide +kernel
theorem e58_0 : decode d58 0 = .ok (.iconst 2, 1) := by decide +kernel
theorem e58_1 : decode d58 1 = .ok (.newarray .char, 2) := by decide +kernel
theorem e58_3 : decode d58 3 = .ok (.astore_n 1, 1) := by decide +kernel
theorem e58_4 : decode d58 4 = .ok (.aload_n 1, 1) := by decide +kernel
theorem e58_5 : decode d58 5 = .ok (.iconst 0, 1) := by decide +kernel
theorem e58_6 : decode d58 6 = .ok (.iload_n 0, 1) := by decide +kernel
theorem e58_7 : decode d58 7 = .ok (.i2c, 1) := by decide +kernel
theorem e58_8 : decode d58 8 = .ok (.castore, 1) := by decide +kernel
theorem e58_9 : decode d58 9 = .ok (.aload_n 1, 1) := by decide +kernel
theorem e58_10 : decode d58 10 = .ok (.iconst 1, 1) := by decide +kernel
theorem e58_11 : decode d58 11 = .ok (.iload_n 0, 1) := by decide +kernel
theorem e58_12 : decode d58 12 = .ok (.bipush 16, 2) := by decide +kernel
theorem e58_14 : decode d58 14 = .ok (.iushr, 1) := by decide +kernel
theorem e58_15 : decode d58 15 = .ok (.i2c, 1) := by decide +kernel
theorem e58_16 : decode d58 16 = .ok (.castore, 1) := by decide +kernel
theorem e58_17 : decode d58 17 = .ok (.aload_n 1, 1) := by decide +kernel
theorem e58_18 : decode d58 18 = .ok (.areturn, 1) := by decide +kernel
theorem e59_0 : decode d59 0 = .ok (.aload_n 0, 1) := by decide +kernel
theorem e59_1 : decode d59 1 = .ok (.invokespecial 1, 3) := by decide +kernel
theorem e59_4 : decode d59 4 = .ok (.aload_n 1, 1) := by decide +kernel
theorem e59_5 : decode d59 5 = .ok (.invokevirtual 552, 3) := by decide +kernel
theorem e60_0 : decode d60 0 = .ok (.aload_n 0, 1) := by decide +kernel
theorem e60_1 : decode d60 1 = .ok (.getfield 15, 3) := by decide +kernel
theorem e60_4 : decode d60 4 = .ok (.areturn, 1) := by decide +kernel
theorem e59_8 : decode d59 8 = .ok (.astore_n 3, 1) := by decide +kernel
theorem e59_9 : decode d59 9 = .ok (.aload_n 1, 1) := by decide +kernel
theorem e59_10 : decode d59 10 = .ok (.invokevirtual 549, 3) := by decide +kernel
theorem e61_0 : decode d61 0 = .ok (.aload_n 0, 1) := by decide +kernel
theorem e61_1 : decode d61 1 = .ok (.invokespecial 343, 3) := by decide +kernel
theorem e62_0 : decode d62 0 = .ok (.aload_n 0, 1) := by decide +kernel
theorem e62_1 : decode d62 1 = .ok (.getfield 79, 3) := by decide +kernel
theorem e62_4 : decode d62 4 = .ok (.ireturn, 1) := by decide +kernel
theorem e61_4 : decode d61 4 = .ok (.ireturn, 1) := by decide +kernel
theorem e59_13 : decode d59 13 = .ok (.istore 4, 2) := by decide +kernel
theorem e59_15 : decode d59 15 = .ok (.aload_n 1, 1) := by decide +kernel
theorem e59_16 : decode d59 16 = .ok (.invokevirtual 1047, 3) := by decide +kernel
theorem e59_19 : decode d59 19 = .ok (.ifCond .eq 22, 3) := by decide +kernel
theorem e59_22 : decode d59 22 = .ok (.aload_n 0, 1) := by decide +kernel
theorem e59_23 : decode d59 23 = .ok (.iconst 0, 1) := by decide +kernel
theorem e59_24 : decode d59 24 = .ok (.putfield 15, 3) := by decide +kernel
theorem e59_27 : decode d59 27 = .ok (.aload_n 0, 1) := by decide +kernel
theorem e59_28 : decode d59 28 = .ok (.aload_n 3, 1) := by decide +kernel
theorem e59_29 : decode d59 29 = .ok (.iconst 0, 1) := by decide +kernel
theorem e59_30 : decode d59 30 = .ok (.iload 4, 2) := by decide +kernel
theorem e59_32 : decode d59 32 = .ok (.invokestatic 54, 3) := by decide +kernel
theorem e59_35 : decode d59 35 = .ok (.putfield 9, 3) := by decide +kernel
theorem e59_38 : decode d59 38 = .ok (.goto 59, 3) := by decide +kernel
theorem e59_97 : decode d59 97 = .ok (.return_, 1) := by decide +kernel
theorem e59_41 : decode d59 41 = .ok (.getstatic 38, 3) := by decide +kernel
theorem e59_44 : decode d59 44 = .ok (.ifCond .eq 35, 3) := by decide +kernel
theorem e59_47 : decode d59 47 = .ok (.aload_n 1, 1) := by decide +kernel
theorem e59_48 : decode d59 48 = .ok (.getfield 1048, 3) := by decide +kernel
theorem e59_51 : decode d59 51 = .ok (.ifCond .eq 28, 3) := by decide +kernel
theorem e59_79 : decode d59 79 = .ok (.aload_n 0, 1) := by decide +kernel
theorem e59_80 : decode d59 80 = .ok (.iconst 1, 1) := by decide +kernel
theorem e59_81 : decode d59 81 = .ok (.putfield 15, 3) := by decide +kernel
theorem e59_84 : decode d59 84 = .ok (.aload_n 0, 1) := by decide +kernel
theorem e59_85 : decode d59 85 = .ok (.aload_n 3, 1) := by decide +kernel
theorem e59_86 : decode d59 86 = .ok (.iconst 0, 1) := by decide +kernel
theorem e59_87 : decode d59 87 = .ok (.iload 4, 2) := by decide +kernel
theorem e59_89 : decode d59 89 = .ok (.iconst 1, 1) := by decide +kernel
theorem e59_90 : decode d59 90 = .ok (.ishl, 1) := by decide +kernel
theorem e59_91 : decode d59 91 = .ok (.invokestatic 54, 3) := by decide +kernel
theorem e59_94 : decode d59 94 = .ok (.putfield 9, 3) := by decide +kernel
theorem e63_0 : decode d63 0 = .ok (.aload_n 0, 1) := by decide +kernel
theorem e63_1 : decode d63 1 = .ok (.aload_n 1, 1) := by decide +kernel
theorem e63_2 : decode d63 2 = .ok (.aconst_null, 1) := by decide +kernel
theorem e63_3 : decode d63 3 = .ok (.invokespecial 489, 3) := by decide +kernel
theorem e63_6 : decode d63 6 = .ok (.return_, 1) := by decide +kernel
theorem e64_0 : decode d64 0 = .ok (.new 18, 3) := by decide +kernel
theorem e64_3 : decode d64 3 = .ok (.dup, 1) := by decide +kernel
theorem e64_4 : decode d64 4 = .ok (.aload_n 0, 1) := by decide +kernel
theorem e64_5 : decode d64 5 = .ok (.invokespecial 137, 3) := by decide +kernel
theorem e64_8 : decode d64 8 = .ok (.areturn, 1) := by decide +kernel
theorem e65_0 : decode d65 0 = .ok (.aload_n 0, 1) := by decide +kernel
theorem e65_1 : decode d65 1 = .ok (.getfield 34, 3) := by decide +kernel
theorem e65_4 : decode d65 4 = .ok (.ifnull 11, 3) := by decide +kernel
theorem e65_15 : decode d65 15 = .ok (.aload_n 0, 1) := by decide +kernel
theorem e65_16 : decode d65 16 = .ok (.getfield 30, 3) := by decide +kernel
theorem e65_19 : decode d65 19 = .ok (.ifnonnull 8, 3) := by decide +kernel
theorem e65_22 : decode d65 22 = .ok (.ldc 48, 2) := by decide +kernel
theorem e65_24 : decode d65 24 = .ok (.goto 7, 3) := by decide +kernel
theorem e65_31 : decode d65 31 = .ok (.areturn, 1) := by decide +kernel
theorem e65_27 : decode d65 27 = .ok (.aload_n 0, 1) := by decide +kernel
theorem e65_28 : decode d65 28 = .ok (.getfield 30, 3) := by decide +kernel
theorem e65_7 : decode d65 7 = .ok (.aload_n 0, 1) := by decide +kernel
theorem e65_8 : decode d65 8 = .ok (.getfield 34, 3) := by decide +kernel
theorem e65_11 : decode d65 11 = .ok (.invokevirtual 44, 3) := by decide +kernel
theorem e65_14 : decode d65 14 = .ok (.areturn, 1) := by decide +kernel
theorem e66_0 : decode d66 0 = .ok (.iload_n 3, 1) := by decide +kernel
theorem e66_1 : decode d66 1 = .ok (.iload_n 2, 1) := by decide +kernel
theorem e66_2 : decode d66 2 = .ok (.if_icmp .ge 14, 3) := by decide +kernel
theorem e66_5 : decode d66 5 = .ok (.aload_n 0, 1) := by decide +kernel
theorem e66_6 : decode d66 6 = .ok (.iload_n 3, 1) := by decide +kernel
theorem e66_7 : decode d66 7 = .ok (.invokevirtual 51, 3) := by decide +kernel
theorem e66_10 : decode d66 10 = .ok (.aload_n 1, 1) := by decide +kernel
theorem e66_11 : decode d66 11 = .ok (.iload_n 3, 1) := by decide +kernel
theorem e66_12 : decode d66 12 = .ok (.caload, 1) := by decide +kernel
theorem e66_13 : decode d66 13 = .ok (.if_icmp .ne 7, 3) := by decide +kernel
theorem e66_16 : decode d66 16 = .ok (.iconst 1, 1) := by decide +kernel
theorem e66_17 : decode d66 17 = .ok (.goto 4, 3) := by decide +kernel
theorem e66_21 : decode d66 21 = .ok (.ireturn, 1) := by decide +kernel
theorem e67_0 : decode d67 0 = .ok (.aload_n 0, 1) := by decide +kernel
theorem e67_1 : decode d67 1 = .ok (.invokespecial 1, 3) := by decide +kernel
theorem e68_0 : decode d68 0 = .ok (.aload_n 0, 1) := by decide +kernel
theorem e68_1 : decode d68 1 = .ok (.invokespecial 7, 3) := by decide +kernel
theorem e68_4 : decode d68 4 = .ok (.aload_n 0, 1) := by decide +kernel
theorem e68_5 : decode d68 5 = .ok (.aload_n 0, 1) := by decide +kernel
theorem e68_6 : decode d68 6 = .ok (.putfield 10, 3) := by decide +kernel
theorem e68_9 : decode d68 9 = .ok (.return_, 1) := by decide +kernel
theorem e67_4 : decode d67 4 = .ok (.return_, 1) := by decide +kernel
theorem pd0 : parseMethodDescriptor "(I)I" = some ⟨[.int], (some .int)⟩ := by decide +kernel
theorem pd1 : parseMethodDescriptor "(I)[B" = some ⟨[.int], (some (.array .byte))⟩ := by decide +kernel
theorem pd2 : parseMethodDescriptor "([BII)V" = some ⟨[(.array .byte), .int, .int], none⟩ := by decide +kernel
theorem pd3 : parseMethodDescriptor "([CI[BII)I" = some ⟨[(.array .char), .int, (.array .byte), .int, .int], (some .int)⟩ := by decide +kernel
theorem pd4 : parseMethodDescriptor "([CII)[B" = some ⟨[(.array .char), .int, .int], (some (.array .byte))⟩ := by decide +kernel
theorem pd5 : parseMethodDescriptor "([BI)C" = some ⟨[(.array .byte), .int], (some .char)⟩ := by decide +kernel
theorem pd6 : parseMethodDescriptor "([BI)B" = some ⟨[(.array .byte), .int], (some .byte)⟩ := by decide +kernel
theorem pd7 : parseMethodDescriptor "([CIILjava/lang/Void;)V" = some ⟨[(.array .char), .int, .int, (.object "java/lang/Void")], none⟩ := by decide +kernel
theorem pd8 : parseMethodDescriptor "()B" = some ⟨[], (some .byte)⟩ := by decide +kernel
theorem pd9 : parseMethodDescriptor "(IILjava/util/function/BiFunction;)I" = some ⟨[.int, .int, (.object "java/util/function/BiFunction")], (some .int)⟩ := by decide +kernel
theorem pd10 : parseMethodDescriptor "(II)V" = some ⟨[.int, .int], none⟩ := by decide +kernel
theorem pd11 : parseMethodDescriptor "([B)I" = some ⟨[(.array .byte)], (some .int)⟩ := by decide +kernel
theorem pd12 : parseMethodDescriptor "(I[B)V" = some ⟨[.int, (.array .byte)], none⟩ := by decide +kernel
theorem pd13 : parseMethodDescriptor "()Z" = some ⟨[], (some .boolean)⟩ := by decide +kernel
theorem pd14 : parseMethodDescriptor "(IIILjava/util/function/BiFunction;)I" = some ⟨[.int, .int, .int, (.object "java/util/function/BiFunction")], (some .int)⟩ := by decide +kernel
theorem pd15 : parseMethodDescriptor "(III)I" = some ⟨[.int, .int, .int], (some .int)⟩ := by decide +kernel
theorem pd16 : parseMethodDescriptor "(III)V" = some ⟨[.int, .int, .int], none⟩ := by decide +kernel
theorem pd17 : parseMethodDescriptor "(II[B)V" = some ⟨[.int, .int, (.array .byte)], none⟩ := by decide +kernel
theorem pd18 : parseMethodDescriptor "([BI[BII)V" = some ⟨[(.array .byte), .int, (.array .byte), .int, .int], none⟩ := by decide +kernel
theorem pd19 : parseMethodDescriptor "([BI[CII)V" = some ⟨[(.array .byte), .int, (.array .char), .int, .int], none⟩ := by decide +kernel
theorem pd20 : parseMethodDescriptor "(I)V" = some ⟨[.int], none⟩ := by decide +kernel
theorem pd21 : parseMethodDescriptor "(C)Z" = some ⟨[.char], (some .boolean)⟩ := by decide +kernel
theorem pd22 : parseMethodDescriptor "()V" = some ⟨[], none⟩ := by decide +kernel
theorem pd23 : parseMethodDescriptor "(C)Ljava/lang/AbstractStringBuilder;" = some ⟨[.char], (some (.object "java/lang/AbstractStringBuilder"))⟩ := by decide +kernel
theorem pd24 : parseMethodDescriptor "([CII)V" = some ⟨[(.array .char), .int, .int], none⟩ := by decide +kernel
theorem pd25 : parseMethodDescriptor "([CII)Ljava/lang/AbstractStringBuilder;" = some ⟨[(.array .char), .int, .int], (some (.object "java/lang/AbstractStringBuilder"))⟩ := by decide +kernel
theorem pd26 : parseMethodDescriptor "(Ljava/lang/String;)V" = some ⟨[(.object "java/lang/String")], none⟩ := by decide +kernel
theorem pd27 : parseMethodDescriptor "([BIB)V" = some ⟨[(.array .byte), .int, .byte], none⟩ := by decide +kernel
theorem pd28 : parseMethodDescriptor "()I" = some ⟨[], (some .int)⟩ := by decide +kernel
theorem pd29 : parseMethodDescriptor "(ILjava/lang/String;)V" = some ⟨[.int, (.object "java/lang/String")], none⟩ := by decide +kernel
theorem pd30 : parseMethodDescriptor "(Ljava/lang/String;)Ljava/lang/AbstractStringBuilder;" = some ⟨[(.object "java/lang/String")], (some (.object "java/lang/AbstractStringBuilder"))⟩ := by decide +kernel
theorem pd31 : parseMethodDescriptor "(Ljava/lang/String;)Ljava/lang/StringBuilder;" = some ⟨[(.object "java/lang/String")], (some (.object "java/lang/StringBuilder"))⟩ := by decide +kernel
theorem pd32 : parseMethodDescriptor "()Ljava/lang/StringBuilder;" = some ⟨[], (some (.object "java/lang/StringBuilder"))⟩ := by decide +kernel
theorem pd33 : parseMethodDescriptor "(C)Ljava/lang/StringBuilder;" = some ⟨[.char], (some (.object "java/lang/StringBuilder"))⟩ := by decide +kernel
theorem pd34 : parseMethodDescriptor "([CII)Ljava/lang/StringBuilder;" = some ⟨[(.array .char), .int, .int], (some (.object "java/lang/StringBuilder"))⟩ := by decide +kernel
theorem pd35 : parseMethodDescriptor "(Ljava/lang/Object;Ljava/lang/String;)Ljava/lang/Object;" = some ⟨[(.object "java/lang/Object"), (.object "java/lang/String")], (some (.object "java/lang/Object"))⟩ := by decide +kernel
theorem pd36 : parseMethodDescriptor "(II)I" = some ⟨[.int, .int], (some .int)⟩ := by decide +kernel
theorem pd37 : parseMethodDescriptor "([BII)[B" = some ⟨[(.array .byte), .int, .int], (some (.array .byte))⟩ := by decide +kernel
theorem pd38 : parseMethodDescriptor "([C)V" = some ⟨[(.array .char)], none⟩ := by decide +kernel
theorem pd39 : parseMethodDescriptor "()[B" = some ⟨[], (some (.array .byte))⟩ := by decide +kernel
theorem pd40 : parseMethodDescriptor "(Ljava/lang/AbstractStringBuilder;Ljava/lang/Void;)V" = some ⟨[(.object "java/lang/AbstractStringBuilder"), (.object "java/lang/Void")], none⟩ := by decide +kernel
theorem pd41 : parseMethodDescriptor "(Ljava/lang/StringBuilder;)V" = some ⟨[(.object "java/lang/StringBuilder")], none⟩ := by decide +kernel
theorem pd42 : parseMethodDescriptor "()Ljava/lang/String;" = some ⟨[], (some (.object "java/lang/String"))⟩ := by decide +kernel
theorem pd43 : parseMethodDescriptor "(I)C" = some ⟨[.int], (some .char)⟩ := by decide +kernel
theorem pd44 : parseMethodDescriptor "(II)Ljava/lang/String;" = some ⟨[.int, .int], (some (.object "java/lang/String"))⟩ := by decide +kernel
theorem pd45 : parseMethodDescriptor "(I)[C" = some ⟨[.int], (some (.array .char))⟩ := by decide +kernel
theorem pd46 : parseMethodDescriptor "(Lcom/example/ply3/ply3/TextWriter;[CIIIILjava/lang/String;[C)I" = some ⟨[(.object "com/example/ply3/ply3/TextWriter"), (.array .char), .int, .int, .int, .int, (.object "java/lang/String"), (.array .char)], (some .int)⟩ := by decide +kernel
theorem pd47 : parseMethodDescriptor "(Ljava/lang/String;[CII)Z" = some ⟨[(.object "java/lang/String"), (.array .char), .int, .int], (some .boolean)⟩ := by decide +kernel
theorem pn0 : plainName "java/lang/StringUTF16" = true := by first | (simp [plainName, overriddenIn]; done) | decide +kernel
theorem pn1 : plainName "java/lang/String" = true := by first | (simp [plainName, overriddenIn]; done) | decide +kernel
theorem pn2 : plainName "java/lang/StringLatin1" = true := by first | (simp [plainName, overriddenIn]; done) | decide +kernel
theorem pn3 : plainName "jdk/internal/util/Preconditions" = true := by first | (simp [plainName, overriddenIn]; done) | decide +kernel
theorem pn4 : plainName "java/lang/AbstractStringBuilder" = true := by first | (simp [plainName, overriddenIn]; done) | decide +kernel
theorem pn5 : plainName "java/lang/StringBuilder" = true := by first | (simp [plainName, overriddenIn]; done) | decide +kernel
theorem pn6 : plainName "com/example/ply3/ply3/TextWriter" = true := by first | (simp [plainName, overriddenIn]; done) | decide +kernel
theorem pn7 : plainName "java/util/Objects" = true := by first | (simp [plainName, overriddenIn]; done) | decide +kernel
theorem pn8 : plainName "com/example/ply3/ply3/TextWriterToStringPinLaw" = true := by first | (simp [plainName, overriddenIn]; done) | decide +kernel
theorem pn9 : plainName "java/util/Arrays" = true := by first | (simp [plainName, overriddenIn]; done) | decide +kernel
theorem pn10 : plainName "java/io/Writer" = true := by first | (simp [plainName, overriddenIn]; done) | decide +kernel
def GlS (Z : State) : Prop := Sta Z Z.heap "java/lang/StringUTF16" "$assertionsDisabled" "Z" (.int 1) ∧ Sta Z Z.heap "java/lang/StringUTF16" "HI_BYTE_SHIFT" "I" (.int 0) ∧ Sta Z Z.heap "java/lang/StringUTF16" "LO_BYTE_SHIFT" "I" (.int 8)
theorem hEW {a0 : Array Value} {Z : State} (hw : Hw a0 Z) : EW Z a0 EL1 := EW.cons (w232 hw) (by decide) (EW.cons (w55 hw) (by decide) (EW.cons (w18 hw) (by decide) (EW.nil)))
theorem hSA {a0 : Array Value} {Z : State} (hw : Hw a0 Z) : ∀ w ∈ Bundle.stringAtoms, w.before a0 Z = true := by
  intro w hq
  simp only [Bundle.stringAtoms, List.mem_cons, List.not_mem_nil, or_false] at hq
  rcases hq with rfl | rfl | rfl | rfl | rfl | rfl | rfl
  · exact (w6 hw)
  · exact (w5 hw)
  · exact (w19 hw)
  · exact (w20 hw)
  · exact (w21 hw)
  · exact (w22 hw)
  · exact (w23 hw)
def Sbd (Z : State) (h : Heap) (b t : Addr) (kv : ClassId) (cs : List Int32) : Prop := Exa Z h b "java/lang/StringBuilder" ∧ Fld Z h b "java/lang/AbstractStringBuilder" "value" "[B" (.ref t) ∧ Fld Z h b "java/lang/AbstractStringBuilder" "maybeLatin1" "Z" (.int 0) ∧ Fld Z h b "java/lang/AbstractStringBuilder" "count" "I" (.int (Int32.ofNat cs.length)) ∧ Ow.Rng cs ∧
  ((Fld Z h b "java/lang/AbstractStringBuilder" "coder" "B" (.int 0) ∧ Arv Z h t kv .byte 16 (Ow.LB cs) (.int 0) ∧ Ow.Lat cs) ∨ (Fld Z h b "java/lang/AbstractStringBuilder" "coder" "B" (.int 1) ∧ Arv Z h t kv .byte 32 (Ow.UB cs) (.int 0) ∧ ∃ x ∈ cs, (255 : Int32) < x))
theorem Sbd.keep {Z : State} {h h' : Heap} {b t : Addr} {kv : ClassId} {cs : List Int32} {ws : List Addr} (F : Sbd Z h b t kv cs) (K : Keep h h' ws) (qb : b ∉ ws) (qt : t ∉ ws) : Sbd Z h' b t kv cs := ⟨F.1.keep K, F.2.1.keep K qb, F.2.2.1.keep K qb, F.2.2.2.1.keep K qb, F.2.2.2.2.1, F.2.2.2.2.2.imp (fun q => ⟨q.1.keep K qb, q.2.1.keep K qt, q.2.2⟩) (fun q => ⟨q.1.keep K qb, q.2.1.keep K qt, q.2.2⟩)⟩
theorem Sbd.lt {Z : State} {h : Heap} {b t : Addr} {kv : ClassId} {cs : List Int32} (F : Sbd Z h b t kv cs) : b < h.size := F.1.lt
theorem Sbd.ltt {Z : State} {h : Heap} {b t : Addr} {kv : ClassId} {cs : List Int32} (F : Sbd Z h b t kv cs) : t < h.size := by
  rcases F.2.2.2.2.2 with q | q <;> exact q.2.1.lt
abbrev lo (p : Int32) : Int32 := p.toUInt32.toUInt16.toUInt32.toInt32
abbrev hi (p : Int32) : Int32 := (Jvm.Free.XT.ushr p 16).toUInt32.toUInt16.toUInt32.toInt32
theorem lo0 (p : Int32) : ¬ lo p < (0 : Int32) := Ow.cge0 (x := p) rfl
theorem lo16 (p : Int32) : ¬ (65535 : Int32) < lo p := Ow.cle16 (x := p) rfl
theorem loN (p : Int32) : nar .char (lo p) = lo p := Ow.cnar (x := p) rfl
theorem hi0 (p : Int32) : ¬ hi p < (0 : Int32) := Ow.cge0 (x := Jvm.Free.XT.ushr p 16) rfl
theorem hi16 (p : Int32) : ¬ (65535 : Int32) < hi p := Ow.cle16 (x := Jvm.Free.XT.ushr p 16) rfl
theorem hiN (p : Int32) : nar .char (hi p) = hi p := Ow.cnar (x := Jvm.Free.XT.ushr p 16) rfl
def StrP (p e : Int32) (ss : List Int32) : Prop := (e = 0 ∧ ss = []) ∨ (e = 1 ∧ ss = [lo p]) ∨ (ss = [lo p, hi p])
theorem Sbd.cast {Z : State} {h : Heap} {b t : Addr} {kv : ClassId} {cs ds : List Int32} (F : Sbd Z h b t kv cs) (e : cs = ds) : Sbd Z h b t kv ds := e ▸ F
theorem caCast {Z : State} {h : Heap} {a : Addr} {k : ClassId} {cs ds : List Int32} (F : Arv Z h a k .char 6 (Ow.CA cs) (.int 0)) (e : cs = ds) : Arv Z h a k .char 6 (Ow.CA ds) (.int 0) := e ▸ F
theorem StrP.len {p e : Int32} {ss : List Int32} (h : StrP p e ss) : ss.length ≤ 2 := by
  rcases h with ⟨_, rfl⟩ | ⟨_, rfl⟩ | rfl <;> simp
theorem dtL (cs : List Int32) {r : List Value} : ((Ow.LB cs ++ r).drop 0).take (cs.length - 0) = Ow.LB cs := by
  rw [List.drop_zero, Nat.sub_zero, List.take_append_of_le_length (by simp), Ow.takeN (by simp)]
theorem dtU (cs : List Int32) {r : List Value} : ((Ow.UB cs ++ r).drop 0).take (2 * cs.length - 0) = Ow.UB cs := by
  rw [List.drop_zero, Nat.sub_zero, List.take_append_of_le_length (by rw [Ow.UBn]; exact Nat.le_refl _), Ow.takeN (by rw [Ow.UBn]; exact Nat.le_refl _)]
theorem and3q (x : Int32) : x &&& 3 = 0 ∨ x &&& 3 = 1 ∨ x &&& 3 = 2 ∨ x &&& 3 = 3 := by
  obtain ⟨k, hk, e⟩ := Ow.andN x (y := 3) (n := 3) (by decide) (by decide)
  rw [e]
  have : k = 0 ∨ k = 1 ∨ k = 2 ∨ k = 3 := by omega
  rcases this with rfl | rfl | rfl | rfl <;> decide
theorem kA {k : Int32} (h : k = 0 ∨ k = 1 ∨ k = 2 ∨ k = 3) : k = 0 ∨ (k = 1 ∨ k = 3) ∨ k = 2 := by
  rcases h with h | h | h | h <;> simp [h]
theorem kB {k : Int32} (h : k = 0 ∨ k = 1 ∨ k = 2 ∨ k = 3) : k = 0 ∨ (k = 1 ∨ k = 2 ∨ k = 3) := h
theorem k13n0 {k : Int32} (h : k = 1 ∨ k = 3) : ¬ k = 0 := by rcases h with rfl | rfl <;> decide
theorem k13n2 {k : Int32} (h : k = 1 ∨ k = 3) : ¬ k = 2 := by rcases h with rfl | rfl <;> decide
theorem k123n0 {k : Int32} (h : k = 1 ∨ k = 2 ∨ k = 3) : ¬ k = 0 := by rcases h with rfl | rfl | rfl <;> decide
theorem oef (m : MethodId) (a : Array Value) (n : Nat) : entryFrame m a n = mkF m 0 (argsToLocals a n) [] := rfl
theorem oal (a : Array Value) (n : Nat) : argsToLocals a n = (a.foldl (fun acc v => if v.category = 2 then (acc.push (.val v)).push .second else acc.push (.val v)) (#[] : Array Slot)) ++ Array.replicate (n - (a.foldl (fun acc v => if v.category = 2 then (acc.push (.val v)).push .second else acc.push (.val v)) (#[] : Array Slot)).size) .unset := rfl
theorem oca (x : Int32) : (Value.int x).category = 1 := rfl
theorem oef4 (x0 x1 x2 x3 : Int32) (m : MethodId) : entryFrame m #[(.int x0), (.int x1), (.int x2), (.int x3)] 24 = mkF m 0 #[.val (.int x0), .val (.int x1), .val (.int x2), .val (.int x3), .unset, .unset, .unset, .unset, .unset, .unset, .unset, .unset, .unset, .unset, .unset, .unset, .unset, .unset, .unset, .unset, .unset, .unset, .unset, .unset] [] := by
  rw [oef, oal]; simp [oca]
theorem fitS {s : State} (hF : heapFits s = true) : Fit s := by
  intro x c hx i hi
  have h1 := Array.all_eq_true.mp hF
  obtain ⟨hlt, rfl⟩ := Array.getElem?_eq_some_iff.mp hx
  have h3 := List.all_eq_true.mp (h1 x hlt) i (List.mem_range.mpr hi)
  simpa [Array.getElem?_eq_getElem hi] using h3

abbrev vI (x : Int32) : Slot := .val (.int x)
abbrev vR (a : Nat) : Slot := .val (.ref a)
set_option maxRecDepth 65536
set_option maxHeartbeats 40000000
variable {l : Launch} {Z : State} {n0 : Nat} {a0 : Array Value} {cz : Int32} {sf : Value}
theorem gcC (hw : Hw a0 Z) (G : Ow.Glo Z cz sf) (GS : GlS Z) {iof : Value} (GI : Sta Z Z.heap "jdk/internal/util/Preconditions" "IOOBE_FORMATTER" "Ljava/util/function/BiFunction;" iof ∧ iof.isRef = true) {h0 : Heap} (O0 : Old Z n0 h0) {a d : Nat} {ka kd : ClassId} {cs : List Int32} (A : Arv Z h0 a ka .char (Int32.ofNat cs.length) (Ow.CA cs) (.int 0)) (D : Arv Z h0 d kd .byte (Int32.ofNat cs.length) [] (.int 0)) (hd : n0 ≤ d) (hne : a ≠ d) (hN : cs.length ≤ 64) :
    Ow.Con l Z EL1 n0 my0 jdk_52_method_21_code 7 (Option.some Jvm.ClassFile.FieldType.int) [] ({ frames := 0, cells := 0, slots := 0, locals := 0 } : Room) #[(.ref a), (.int 0), (.ref d), (.int 0), (.int (Int32.ofNat cs.length))] [d] h0 (fun v h S' => (v = some (.int (Int32.ofNat cs.length)) ∧ Keep h0 h [d] ∧ Ow.Lat cs ∧ Arv Z h d kd .byte (Int32.ofNat cs.length) (Ow.LB cs) (.int 0) ∧ S' = []) ∨ (∃ j : Nat, ∃ x : Int32, v = some (.int (Int32.ofNat j)) ∧ Keep h0 h [d] ∧ cs[j]? = some x ∧ (255 : Int32) < x ∧ S' = [])) := by
 refine Ow.Con.enter (Ls := #[vR a, vI 0, vR d, vI 0, vI (Int32.ofNat cs.length), .unset, .unset]) (plainFor_of_name pn0) O0 (hEW hw) (hSA hw) ?_
 intro p e s m below meth c B
 have z0 := Ow.old_le O0
 refine Ow.iconst (pc' := 1) (x := 0) B e0_0 ?_
 refine Ow.istore (pc' := 3) (Ls' := #[vR a, vI (Int32.ofNat 0), vR d, vI (Int32.ofNat 0), vI (Int32.ofNat cs.length), vI (Int32.ofNat 0), .unset]) B e0_1 ?_
 refine Ow.Go.loop (fun i (x : Nat × Slot) h => x.1 + i = cs.length ∧ Keep h0 h [d] ∧ Arv Z h d kd .byte (Int32.ofNat cs.length) ((Ow.LB cs).take x.1) (.int 0) ∧ (∀ y ∈ cs.take x.1, ¬ (255 : Int32) < y) ∧ Ow.UI x.2) (fun x => #[vR a, vI (Int32.ofNat x.1), vR d, vI (Int32.ofNat x.1), vI (Int32.ofNat cs.length), vI (Int32.ofNat x.1), x.2]) ?_ cs.length (0, .unset) ⟨by omega, Keep.refl _ _, D.pad (fun i => by simp), by simp, Or.inl rfl⟩
 intro i ⟨j, u⟩ h ⟨hj, K, D1, hl, hu⟩ ih
 dsimp only at hj D1 hl hu ⊢
 have zK := K.1
 refine Ow.iload (pc' := 5) B e0_3 (Ow.iload (pc' := 7) B e0_5 ?_)
 by_cases c1 : j < cs.length
 ·obtain ⟨x, hx⟩ : ∃ x, cs[j]? = some x := ⟨_, List.getElem?_eq_getElem c1⟩
  refine Ow.icmpF (pc' := 10) B e0_7 (tlt (Ow.nlT c1)).2.1 ?_
  refine Ow.aloadN (pc' := 11) B e0_10 (Ow.iloadN (pc' := 12) B e0_11 ?_)
  refine Ow.caload (pc' := 13) (v := .int x) B e0_12 (A.keep K (Ow.ninS hne Ow.nin0)) ⟨Ow.nn, Ow.nlT c1⟩ (by rw [Ow.nc]; exact Ow.gD (Ow.CAa hx)) ?_
  refine Ow.istore (pc' := 15) (Ls' := #[vR a, vI (Int32.ofNat j), vR d, vI (Int32.ofNat j), vI (Int32.ofNat cs.length), vI (Int32.ofNat j), vI x]) (hl := by rcases hu with rfl | ⟨y, rfl⟩ <;> rfl) B e0_13 (Ow.iload (pc' := 17) B e0_15 (Ow.sipush (pc' := 20) (x := 255) B e0_17 ?_))
  by_cases c2 : (255 : Int32) < x
  ·refine Ow.icmpF (pc' := 23) B e0_20 (tlt c2).2.2.2 (Ow.iload (pc' := 25) B e0_23 ?_)
   exact Ow.retI (S' := []) (t := .int) B e0_25 (Or.inr ⟨j, x, rfl, K, hx, c2, rfl⟩)
  ·refine Ow.icmpT (pc' := 26) B e0_20 (flt c2).2.2.2 ?_
   refine Ow.aloadN (pc' := 27) B e0_26 (Ow.iloadN (pc' := 28) B e0_27 (Ow.iload (pc' := 30) B e0_28 (Ow.i2b (pc' := 31) (z := x.toInt8.toInt32) B e0_30 ?_)))
   refine Ow.bastore (pc' := 32) (i := j) B e0_31 (D1.pad (Ow.pad1 _ _)) ⟨Ow.nn, Ow.nlT c1⟩ (by simp) ?_ (hlt := by simp; omega) (hi := Ow.nc)
   intro h' K' D2
   rw [Ow.nar_b, Ow.tk (Ow.LBa hx)] at D2
   refine Ow.iinc (pc' := 35) (y := Int32.ofNat (j + 1)) (hy := (Ow.nS j).symm) (Ls' := #[vR a, vI (Int32.ofNat (j + 1)), vR d, vI (Int32.ofNat j), vI (Int32.ofNat cs.length), vI (Int32.ofNat j), vI x]) B e0_32 ?_
   refine Ow.iinc (pc' := 38) (y := Int32.ofNat (j + 1)) (hy := (Ow.nS j).symm) (Ls' := #[vR a, vI (Int32.ofNat (j + 1)), vR d, vI (Int32.ofNat (j + 1)), vI (Int32.ofNat cs.length), vI (Int32.ofNat j), vI x]) B e0_35 ?_
   refine Ow.iinc (pc' := 41) (y := Int32.ofNat (j + 1)) (hy := (Ow.nS j).symm) (Ls' := #[vR a, vI (Int32.ofNat (j + 1)), vR d, vI (Int32.ofNat (j + 1)), vI (Int32.ofNat cs.length), vI (Int32.ofNat (j + 1)), vI x]) B e0_38 ?_
   refine Ow.goto (pc' := 3) B e0_41 ?_
   exact ih (i - 1) (j + 1, vI x) h' (by omega) ⟨by show j + 1 + (i - 1) = _; omega, K.trans K' (allS (Or.inl (by simp)) all0), D2, Ow.take1 hx hl c2, Or.inr ⟨_, rfl⟩⟩
 ·have e : j = cs.length := by omega
  refine Ow.icmpT (pc' := 44) B e0_7 (flt (Ow.nlF c1)).2.1 (Ow.iload (pc' := 46) B e0_44 ?_)
  rw [e, Ow.takeN (by simp)] at D1
  rw [e, Ow.takeN (Nat.le_refl _)] at hl
  exact Ow.retI (S' := []) (t := .int) B e0_46 (Or.inl ⟨rfl, K, hl, D1, rfl⟩)
theorem gNbl (hw : Hw a0 Z) (G : Ow.Glo Z cz sf) (GS : GlS Z) {iof : Value} (GI : Sta Z Z.heap "jdk/internal/util/Preconditions" "IOOBE_FORMATTER" "Ljava/util/function/BiFunction;" iof ∧ iof.isRef = true) {h0 : Heap} (O0 : Old Z n0 h0) {n : Nat} (hn : n ≤ 64) :
    Ow.Con l Z EL1 n0 my1 jdk_52_method_3_code 1 (Option.some Jvm.ClassFile.FieldType.int) [] ({ frames := 0, cells := 0, slots := 0, locals := 0 } : Room) #[(.int (Int32.ofNat n))] [] h0 (fun v h S' => v = some (.int (Int32.ofNat (2 * n))) ∧ h = h0 ∧ S' = []) := by
 refine Ow.Con.enter (Ls := #[vI (Int32.ofNat n)]) (plainFor_of_name pn0) O0 (hEW hw) (hSA hw) ?_
 intro p e s m below meth c B
 have z0 := Ow.old_le O0
 refine Ow.iloadN (pc' := 1) B e1_0 ?_
 refine Ow.ifT (pc' := 12) B e1_1 (flt (Ow.nn)).2.1 ?_
 refine Ow.iloadN (pc' := 13) B e1_12 ?_
 refine Ow.ldcInt (pc' := 15) B e1_13 (w217 hw) ?_
 refine Ow.icmpT (pc' := 55) B e1_15 (tlt (Ow.nBig)).1 ?_
 refine Ow.iloadN (pc' := 56) B e1_55 (Ow.iconst (pc' := 57) (x := 1) B e1_56 ?_)
 refine Ow.ishl (pc' := 58) (z := (Int32.ofNat (2 * n))) (hz := (Ow.nD hn)) B e1_57 ?_
 exact Ow.retI (S' := []) (t := .int) B e1_58 (⟨rfl, rfl, rfl⟩)
theorem gNbf (hw : Hw a0 Z) (G : Ow.Glo Z cz sf) (GS : GlS Z) {iof : Value} (GI : Sta Z Z.heap "jdk/internal/util/Preconditions" "IOOBE_FORMATTER" "Ljava/util/function/BiFunction;" iof ∧ iof.isRef = true) {h0 : Heap} (O0 : Old Z n0 h0) {n : Nat} (hn : n ≤ 16) :
    Ow.Con l Z EL1 n0 my2 jdk_52_method_2_code 1 (Option.some (Jvm.ClassFile.FieldType.array Jvm.ClassFile.FieldType.byte)) [] ({ frames := 1, cells := 1, slots := 32, locals := 12 } : Room) #[(.int (Int32.ofNat n))] [] h0 (fun v h S' => ∃ r : Nat, ∃ kr : ClassId, v = some (.ref r) ∧ Keep h0 h [] ∧ h0.size ≤ r ∧ Arv Z h r kr .byte (Int32.ofNat (2 * n)) [] (.int 0) ∧ S' = [r]) := by
 refine Ow.Con.enter (Ls := #[vI (Int32.ofNat n)]) (plainFor_of_name pn0) O0 (hEW hw) (hSA hw) ?_
 intro p e s m below meth c B
 have z0 := Ow.old_le O0
 refine Ow.iloadN (pc' := 1) B e2_0 ?_
 refine Ow.Go.old (fun o1 => ?_)
 refine Ow.callStatic (pc' := 4) (W := 0) (k' := 0) (n' := 0) (argsL := [(.int (Int32.ofNat n))]) (rest := []) B e2_1 (w214 hw) (w215 hw) (w72 hw) (w216 hw) (gNbl hw G GS GI (n := n) o1 (by omega)) pd0 ?_
 intro vq2 h3 S4 q2 zh3
 obtain ⟨rfl, rfl, rfl⟩ := q2
 refine Ow.Go.nr (S' := []) (st' := [(.int (Int32.ofNat (2 * n)))]) ?_
 refine Ow.newArr (pc' := 6) (k' := 1) (n' := 32) (cap := 32) B e2_4 (w19 hw) Ow.nn (by rw [Ow.nc]; omega) ?_
 intro h6 a5 ka5 ga5 ba5 Kh6 V0a5
 have zh6 := Kh6.1
 have la5 : (a5 : Nat) < h6.size := V0a5.lt
 exact Ow.retA (S' := [a5]) (t := (.array .byte)) B e2_6 (⟨a5, ka5, rfl, ((Keep.refl _ []).trans Kh6 (fun _ q => nomatch q)), (by omega), V0a5, rfl⟩)
theorem gPut (hw : Hw a0 Z) (G : Ow.Glo Z cz sf) (GS : GlS Z) {iof : Value} (GI : Sta Z Z.heap "jdk/internal/util/Preconditions" "IOOBE_FORMATTER" "Ljava/util/function/BiFunction;" iof ∧ iof.isRef = true) {h0 : Heap} (O0 : Old Z n0 h0) {d j N : Nat} {kd : ClassId} {x : Int32} {cs : List Int32} (D : Arv Z h0 d kd .byte (Int32.ofNat (2 * N)) ((Ow.UB cs).take (2 * j)) (.int 0)) (hx : cs[j]? = some x) (hd : n0 ≤ d) (hM : cs.length ≤ N) (hN : N ≤ 64) :
    Ow.Con l Z EL1 n0 my3 jdk_52_method_4_code 3 (Option.none : Option Jvm.ClassFile.FieldType) [] ({ frames := 0, cells := 0, slots := 0, locals := 0 } : Room) #[(.ref d), (.int (Int32.ofNat j)), (.int x)] [d] h0 (fun v h S' => v = none ∧ Keep h0 h [d] ∧ Arv Z h d kd .byte (Int32.ofNat (2 * N)) ((Ow.UB cs).take (2 * (j + 1))) (.int 0) ∧ S' = []) := by
 refine Ow.Con.enter (Ls := #[vR d, vI (Int32.ofNat j), vI x]) (plainFor_of_name pn0) O0 (hEW hw) (hSA hw) ?_
 intro p e s m below meth c B
 have z0 := Ow.old_le O0
 have ld : (d : Nat) < h0.size := D.lt
 have hj := (List.getElem?_eq_some_iff.mp hx).1
 have hU := Ow.UBn cs
 refine Ow.getstatic (pc' := 3) B e3_0 (w221 hw) Via.refl GS.1 ?_
 refine Ow.ifT (pc' := 28) B e3_3 (by decide) ?_
 refine Ow.iloadN (pc' := 29) B e3_28 (Ow.iconst (pc' := 30) (x := 1) B e3_29 ?_)
 refine Ow.ishl (pc' := 31) (z := (Int32.ofNat (2 * j))) (hz := (Ow.nD (by omega))) B e3_30 ?_
 refine Ow.istoreN (pc' := 32) (Ls' := #[vR d, vI (Int32.ofNat (2 * j)), vI x]) B e3_31 ?_
 refine Ow.aloadN (pc' := 33) B e3_32 (Ow.iloadN (pc' := 34) B e3_33 ?_)
 refine Ow.iinc (pc' := 37) (y := (Int32.ofNat (2 * j + 1))) (Ls' := #[vR d, vI (Int32.ofNat (2 * j + 1)), vI x]) (hy := ((Ow.nS _)).symm) B e3_34 ?_
 refine Ow.iloadN (pc' := 38) B e3_37 ?_
 refine Ow.getstatic (pc' := 41) B e3_38 (w222 hw) Via.refl GS.2.1 ?_
 refine Ow.ishr (pc' := 42) (z := x) (hz := (Ow.shr0 _)) B e3_41 ?_
 refine Ow.i2b (pc' := 43) (z := x.toInt8.toInt32) B e3_42 ?_
 refine Ow.bastore (pc' := 44) (i := (2 * j)) B e3_43 (D.pad (Ow.pad1 _ _)) ⟨Ow.nn, Ow.nlT (by omega)⟩ (by simp) ?_ (hlt := by rw [List.length_append, List.length_take, hU]; simp; omega) (hi := Ow.nc)
 intro h1 Kh1 V2
 have zh1 := Kh1.1
 rw [Ow.nar_b] at V2
 refine Ow.aloadN (pc' := 45) B e3_44 (Ow.iloadN (pc' := 46) B e3_45 (Ow.iloadN (pc' := 47) B e3_46 ?_))
 refine Ow.getstatic (pc' := 50) B e3_47 (w223 hw) Via.refl GS.2.2 ?_
 refine Ow.ishr (pc' := 51) (z := (x >>> ((8 : Int32) &&& 31))) B e3_50 ?_
 refine Ow.i2b (pc' := 52) (z := (x >>> ((8 : Int32) &&& 31)).toInt8.toInt32) B e3_51 ?_
 refine Ow.bastore (pc' := 53) (i := (2 * j + 1)) B e3_52 (V2.pad (Ow.pad1 _ _)) ⟨Ow.nn, Ow.nlT (by omega)⟩ (by simp) ?_ (hlt := by rw [List.length_append, List.length_set, List.length_append, List.length_take, hU]; simp; omega) (hi := Ow.nc)
 intro h3 Kh3 V4
 have zh3 := Kh3.1
 rw [Ow.nar_b] at V4
 have F := V4
 rw [Ow.UBt hx] at F
 exact Ow.retV (S' := []) B e3_53 (⟨rfl, (((Keep.refl _ [d]).trans Kh1 (allS (Or.inl (by simp)) all0)).trans Kh3 (allS (Or.inl (by simp)) all0)), F, rfl⟩)
theorem gGetc (hw : Hw a0 Z) (G : Ow.Glo Z cz sf) (GS : GlS Z) {iof : Value} (GI : Sta Z Z.heap "jdk/internal/util/Preconditions" "IOOBE_FORMATTER" "Ljava/util/function/BiFunction;" iof ∧ iof.isRef = true) {h0 : Heap} (O0 : Old Z n0 h0) {t j : Nat} {kt : ClassId} {x : Int32} {cs : List Int32} (D : Arv Z h0 t kt .byte (Int32.ofNat (2 * cs.length)) (Ow.UB cs) (.int 0)) (hx : cs[j]? = some x) (r0 : ¬ x < (0 : Int32)) (r1 : ¬ (65535 : Int32) < x) (hN : cs.length ≤ 64) :
    Ow.Con l Z EL1 n0 my4 jdk_52_method_5_code 2 (Option.some Jvm.ClassFile.FieldType.char) [] ({ frames := 0, cells := 0, slots := 0, locals := 0 } : Room) #[(.ref t), (.int (Int32.ofNat j))] [] h0 (fun v h S' => v = some (.int x) ∧ h = h0 ∧ S' = []) := by
 refine Ow.Con.enter (Ls := #[vR t, vI (Int32.ofNat j)]) (plainFor_of_name pn0) O0 (hEW hw) (hSA hw) ?_
 intro p e s m below meth c B
 have z0 := Ow.old_le O0
 have hj := (List.getElem?_eq_some_iff.mp hx).1
 have hU := Ow.UBa (fun x : Int32 => Value.int x.toInt8.toInt32) (fun x : Int32 => Value.int (x >>> ((8 : Int32) &&& 31)).toInt8.toInt32) cs j hx
 refine Ow.getstatic (pc' := 3) B e4_0 (w221 hw) Via.refl GS.1 ?_
 refine Ow.ifT (pc' := 28) B e4_3 (by decide) ?_
 refine Ow.iloadN (pc' := 29) B e4_28 (Ow.iconst (pc' := 30) (x := 1) B e4_29 ?_)
 refine Ow.ishl (pc' := 31) (z := (Int32.ofNat (2 * j))) (hz := (Ow.nD (by omega))) B e4_30 ?_
 refine Ow.istoreN (pc' := 32) (Ls' := #[vR t, vI (Int32.ofNat (2 * j))]) B e4_31 ?_
 refine Ow.aloadN (pc' := 33) B e4_32 (Ow.iloadN (pc' := 34) B e4_33 ?_)
 refine Ow.iinc (pc' := 37) (y := (Int32.ofNat (2 * j + 1))) (Ls' := #[vR t, vI (Int32.ofNat (2 * j + 1))]) (hy := ((Ow.nS _)).symm) B e4_34 ?_
 refine Ow.baload (pc' := 38) (v := (.int x.toInt8.toInt32)) B e4_37 D ⟨Ow.nn, Ow.nlT (by omega)⟩ (by rw [Ow.nc]; exact Ow.gD hU.1) ?_
 refine Ow.sipush (pc' := 41) (x := 255) B e4_38 ?_
 refine Ow.iand (pc' := 42) (z := (x.toInt8.toInt32 &&& (255 : Int32))) B e4_41 ?_
 refine Ow.getstatic (pc' := 45) B e4_42 (w222 hw) Via.refl GS.2.1 ?_
 refine Ow.ishl (pc' := 46) (z := ((x.toInt8.toInt32 &&& (255 : Int32)) <<< ((0 : Int32) &&& 31))) B e4_45 ?_
 refine Ow.aloadN (pc' := 47) B e4_46 (Ow.iloadN (pc' := 48) B e4_47 ?_)
 refine Ow.baload (pc' := 49) (v := (.int (x >>> ((8 : Int32) &&& 31)).toInt8.toInt32)) B e4_48 D ⟨Ow.nn, Ow.nlT (by omega)⟩ (by rw [Ow.nc]; exact Ow.gD hU.2) ?_
 refine Ow.sipush (pc' := 52) (x := 255) B e4_49 ?_
 refine Ow.iand (pc' := 53) (z := ((x >>> ((8 : Int32) &&& 31)).toInt8.toInt32 &&& (255 : Int32))) B e4_52 ?_
 refine Ow.getstatic (pc' := 56) B e4_53 (w223 hw) Via.refl GS.2.2 ?_
 refine Ow.ishl (pc' := 57) (z := (((x >>> ((8 : Int32) &&& 31)).toInt8.toInt32 &&& (255 : Int32)) <<< ((8 : Int32) &&& 31))) B e4_56 ?_
 refine Ow.ior (pc' := 58) (z := x) (hz := (Ow.u16 (r0) (r1))) B e4_57 ?_
 refine Ow.i2c (pc' := 59) (z := x) (hz := (Ow.c_id16 (r0) (r1))) B e4_58 ?_
 exact Ow.retI (S' := []) (t := .char) (hnn := (Ow.cnarrow (Ow.nar_id16 (r0) (r1)))) B e4_59 (⟨rfl, rfl, rfl⟩)
theorem gTob (hw : Hw a0 Z) (G : Ow.Glo Z cz sf) (GS : GlS Z) {iof : Value} (GI : Sta Z Z.heap "jdk/internal/util/Preconditions" "IOOBE_FORMATTER" "Ljava/util/function/BiFunction;" iof ∧ iof.isRef = true) {h0 : Heap} (O0 : Old Z n0 h0) {a : Nat} {ka : ClassId} {cs : List Int32} (A : Arv Z h0 a ka .char (Int32.ofNat cs.length) (Ow.CA cs) (.int 0)) (hC : cs.length ≤ 16) (hN : cs.length ≤ 64) :
    Ow.Con l Z EL1 n0 my5 jdk_52_method_14_code 5 (Option.some (Jvm.ClassFile.FieldType.array Jvm.ClassFile.FieldType.byte)) [] ({ frames := 2, cells := 1, slots := 32, locals := 24 } : Room) #[(.ref a), (.int 0), (.int (Int32.ofNat cs.length))] [] h0 (fun v h S' => ∃ r : Nat, ∃ kr : ClassId, v = some (.ref r) ∧ Keep h0 h [] ∧ h0.size ≤ r ∧ Arv Z h r kr .byte (Int32.ofNat (2 * cs.length)) (Ow.UB cs) (.int 0) ∧ S' = [r]) := by
 refine Ow.Con.enter (Ls := #[vR a, vI 0, vI (Int32.ofNat cs.length), .unset, .unset]) (plainFor_of_name pn0) O0 (hEW hw) (hSA hw) ?_
 intro p e s m below meth c B
 have z0 := Ow.old_le O0
 have la : (a : Nat) < h0.size := A.lt
 refine Ow.iloadN (pc' := 1) B e5_0 (Ow.Go.old fun o1 => ?_)
 refine Ow.callStatic (pc' := 4) (W := 0) (k' := 1) (n' := 32) (argsL := [.int (Int32.ofNat cs.length)]) (rest := []) B e5_1 (w211 hw) (w212 hw) (w72 hw) (w213 hw) (gNbf hw G GS GI (n := cs.length) o1 hC) pd1 ?_
 intro v h1 S1 ⟨d, kd, e1, K1, bd, D, e2⟩ zh1
 subst e1 e2
 refine Ow.Go.norm (S' := [d]) (st' := [(.ref d)]) (fun _ q => q) rfl ?_
 refine Ow.astoreN (pc' := 5) (Ls' := #[vR a, vI 0, vI (Int32.ofNat cs.length), vR d, .unset]) B e5_4 (Ow.iconst (pc' := 6) (x := 0) B e5_5 ?_)
 refine Ow.istore (pc' := 8) (Ls' := #[vR a, vI (Int32.ofNat 0), vI (Int32.ofNat cs.length), vR d, vI (Int32.ofNat 0)]) B e5_6 ?_
 refine Ow.Go.loop (fun i (x : Nat) h => x + i = cs.length ∧ Keep h0 h [] ∧ d < h.size ∧ Arv Z h d kd .byte (Int32.ofNat (2 * cs.length)) ((Ow.UB cs).take (2 * x)) (.int 0)) (fun x => #[vR a, vI (Int32.ofNat x), vI (Int32.ofNat cs.length), vR d, vI (Int32.ofNat x)]) ?_ cs.length 0 ⟨by omega, K1, D.lt, D.pad (fun i => by simp)⟩
 intro i j h ⟨hj, K, ld, D1⟩ ih
 dsimp only at hj D1 ⊢
 have zK := K.1
 refine Ow.iload (pc' := 10) B e5_8 (Ow.iloadN (pc' := 11) B e5_10 ?_)
 by_cases c1 : j < cs.length
 ·obtain ⟨x, hx⟩ : ∃ x, cs[j]? = some x := ⟨_, List.getElem?_eq_getElem c1⟩
  refine Ow.icmpF (pc' := 14) B e5_11 (tlt (Ow.nlT c1)).2.1 ?_
  refine Ow.aloadN (pc' := 15) B e5_14 (Ow.iload (pc' := 17) B e5_15 (Ow.aloadN (pc' := 18) B e5_17 (Ow.iloadN (pc' := 19) B e5_18 ?_)))
  refine Ow.caload (pc' := 20) (v := .int x) B e5_19 (A.keep K Ow.nin0) ⟨Ow.nn, Ow.nlT c1⟩ (by rw [Ow.nc]; exact Ow.gD (Ow.CAa hx)) ?_
  refine Ow.Go.old fun o2 => ?_
  refine Ow.callStatic (pc' := 23) (W := 0) (k' := 1) (n' := 32) (argsL := [.ref d, .int (Int32.ofNat j), .int x]) (rest := []) B e5_20 (w218 hw) (w219 hw) (w72 hw) (w220 hw) (gPut hw G GS GI o2 D1 hx (by omega) (Nat.le_refl _) hN) pd2 ?_
  intro v h2 S2 ⟨e1, K2, D2, e2⟩ zh2
  subst e1 e2
  refine Ow.Go.norm (S' := [d]) (st' := []) (fun _ q => q) rfl ?_
  refine Ow.iinc (pc' := 26) (y := Int32.ofNat (j + 1)) (hy := (Ow.nS j).symm) (Ls' := #[vR a, vI (Int32.ofNat (j + 1)), vI (Int32.ofNat cs.length), vR d, vI (Int32.ofNat j)]) B e5_23 ?_
  refine Ow.iinc (pc' := 29) (y := Int32.ofNat (j + 1)) (hy := (Ow.nS j).symm) (Ls' := #[vR a, vI (Int32.ofNat (j + 1)), vI (Int32.ofNat cs.length), vR d, vI (Int32.ofNat (j + 1))]) B e5_26 ?_
  refine Ow.goto (pc' := 8) B e5_29 ?_
  exact ih (i - 1) (j + 1) h2 (by omega) ⟨by omega, K.trans K2 (allS (Or.inr (by omega)) all0), D2.lt, D2⟩
 ·have e : j = cs.length := by omega
  refine Ow.icmpT (pc' := 32) B e5_11 (flt (Ow.nlF c1)).2.1 (Ow.aloadN (pc' := 33) B e5_32 ?_)
  rw [e, Ow.takeN (Nat.le_of_eq (Ow.UBn cs))] at D1
  exact Ow.retA (S' := [d]) (t := (.array .byte)) B e5_33 ⟨d, kd, rfl, K, bd, D1, rfl⟩
theorem gCC (hw : Hw a0 Z) (G : Ow.Glo Z cz sf) (GS : GlS Z) {iof : Value} (GI : Sta Z Z.heap "jdk/internal/util/Preconditions" "IOOBE_FORMATTER" "Ljava/util/function/BiFunction;" iof ∧ iof.isRef = true) {h0 : Heap} (O0 : Old Z n0 h0) {a : Nat} {ka : ClassId} {cs : List Int32} (A : Arv Z h0 a ka .char (Int32.ofNat cs.length) (Ow.CA cs) (.int 0)) (hR : Ow.Rng cs) (hC : cs.length ≤ 16) (hN : cs.length ≤ 64) :
    Ow.Con l Z EL1 n0 my6 jdk_52_method_16_code 6 (Option.some (Jvm.ClassFile.FieldType.array Jvm.ClassFile.FieldType.byte)) [] ({ frames := 3, cells := 2, slots := 48, locals := 40 } : Room) #[(.ref a), (.int 0), (.int (Int32.ofNat cs.length))] [] h0 (fun v h S' => (∃ r : Nat, ∃ kr : ClassId, v = some (.ref r) ∧ Keep h0 h [] ∧ h0.size ≤ r ∧ Ow.Lat cs ∧ Arv Z h r kr .byte (Int32.ofNat cs.length) (Ow.LB cs) (.int 0) ∧ S' = [r]) ∨ (∃ r : Nat, ∃ kr : ClassId, ∃ x : Int32, v = some (.ref r) ∧ Keep h0 h [] ∧ h0.size ≤ r ∧ x ∈ cs ∧ (255 : Int32) < x ∧ Arv Z h r kr .byte (Int32.ofNat (2 * cs.length)) (Ow.UB cs) (.int 0) ∧ S' = [r])) := by
 refine Ow.Con.enter (Ls := #[vR a, vI 0, vI (Int32.ofNat cs.length), .unset, .unset, .unset]) (plainFor_of_name pn0) O0 (hEW hw) (hSA hw) ?_
 intro p e s m below meth c B
 have z0 := Ow.old_le O0
 have la : (a : Nat) < h0.size := A.lt
 refine Ow.iloadN (pc' := 1) B e6_0 ?_
 refine Ow.newArr (pc' := 3) (k' := 1) (n' := 16) (cap := 16) B e6_1 (w19 hw) Ow.nn (by rw [Ow.nc]; omega) ?_
 intro h2 a1 ka1 ga1 ba1 Kh2 V0a1
 have zh2 := Kh2.1
 have la1 : (a1 : Nat) < h2.size := V0a1.lt
 refine Ow.astoreN (pc' := 4) (Ls' := #[vR a, vI 0, vI (Int32.ofNat cs.length), vR a1, .unset, .unset]) B e6_3 ?_
 refine Ow.aloadN (pc' := 5) B e6_4 (Ow.iloadN (pc' := 6) B e6_5 (Ow.aloadN (pc' := 7) B e6_6 (Ow.iconst (pc' := 8) (x := 0) B e6_7 (Ow.iloadN (pc' := 9) B e6_8 ?_))))
 have f3 := A.keep Kh2 Ow.nin0
 refine Ow.Go.old (fun o4 => ?_)
 refine Ow.callStatic (pc' := 12) (W := 0) (k' := 1) (n' := 16) (argsL := [(.ref a), (.int 0), (.ref a1), (.int 0), (.int (Int32.ofNat cs.length))]) (rest := []) B e6_9 (w74 hw) (w75 hw) (w72 hw) (w76 hw) (gcC hw G GS GI o4 f3 V0a1 (by omega) (by omega) hN) pd3 ?_
 intro vq5 h6 S7 q5 zh6
 rcases q5 with q5 | q5
 ·obtain ⟨rfl, Kh6, l9, f8, rfl⟩ := q5
  refine Ow.Go.nr (S' := [a1]) (st' := [(.int (Int32.ofNat cs.length))]) ?_
  refine Ow.istore (pc' := 14) (Ls' := #[vR a, vI 0, vI (Int32.ofNat cs.length), vR a1, vI (Int32.ofNat cs.length), .unset]) B e6_12 ?_
  refine Ow.iload (pc' := 16) B e6_14 (Ow.iloadN (pc' := 17) B e6_16 ?_)
  refine Ow.icmpT (pc' := 57) B e6_17 (teq (rfl)).1 ?_
  refine Ow.aloadN (pc' := 58) B e6_57 ?_
  exact Ow.retA (S' := [a1]) (t := (.array .byte)) B e6_58 (Or.inl ⟨a1, ka1, rfl, (((Keep.refl _ []).trans Kh2 (fun _ q => nomatch q)).trans Kh6 (allS (Or.inr (by omega)) all0)), (by omega), l9, f8, rfl⟩)
 ·obtain ⟨j10, x11, rfl, Kh6, e12, c13, rfl⟩ := q5
  have lj10 := (List.getElem?_eq_some_iff.mp e12).1
  refine Ow.Go.nr (S' := [a1]) (st' := [(.int (Int32.ofNat j10))]) ?_
  refine Ow.istore (pc' := 14) (Ls' := #[vR a, vI 0, vI (Int32.ofNat cs.length), vR a1, vI (Int32.ofNat j10), .unset]) B e6_12 ?_
  refine Ow.iload (pc' := 16) B e6_14 (Ow.iloadN (pc' := 17) B e6_16 ?_)
  refine Ow.icmpF (pc' := 20) B e6_17 (feq (Ow.nE)).1 ?_
  refine Ow.aloadN (pc' := 21) B e6_20 (Ow.iloadN (pc' := 22) B e6_21 (Ow.iloadN (pc' := 23) B e6_22 ?_))
  have f14 := f3.keep Kh6 (Ow.ninS (by omega) Ow.nin0)
  refine Ow.Go.old (fun o15 => ?_)
  refine Ow.callStatic (pc' := 26) (W := 0) (k' := 2) (n' := 48) (argsL := [(.ref a), (.int 0), (.int (Int32.ofNat cs.length))]) (rest := []) B e6_23 (w208 hw) (w209 hw) (w72 hw) (w210 hw) (gTob hw G GS GI o15 f14 hC hN) pd4 ?_
  intro vq16 h17 S18 q16 zh17
  obtain ⟨r19, k20, rfl, Kh17, br19, f21, rfl⟩ := q16
  have lr19 : (r19 : Nat) < h17.size := f21.lt
  refine Ow.Go.norm (S' := [r19, a1]) (st' := [(.ref r19)]) (fun _ q => q) rfl ?_
  refine Ow.astore (pc' := 28) (Ls' := #[vR a, vI 0, vI (Int32.ofNat cs.length), vR a1, vI (Int32.ofNat j10), vR r19]) B e6_26 ?_
  refine Ow.aload (pc' := 30) B e6_28 (Ow.iload (pc' := 32) B e6_30 ?_)
  refine Ow.Go.old (fun o22 => ?_)
  refine Ow.callStatic (pc' := 35) (W := 0) (k' := 2) (n' := 48) (argsL := [(.ref r19), (.int (Int32.ofNat j10))]) (rest := []) B e6_32 (w224 hw) (w225 hw) (w72 hw) (w226 hw) (gGetc hw G GS GI o22 f21 e12 (hR x11 (List.mem_of_getElem? e12)).1 (hR x11 (List.mem_of_getElem? e12)).2 hN) pd5 ?_
  intro vq23 h24 S25 q23 zh24
  obtain ⟨rfl, rfl, rfl⟩ := q23
  refine Ow.Go.nr (S' := [r19, a1]) (st' := [(.int x11)]) ?_
  refine Ow.sipush (pc' := 38) (x := 255) B e6_35 ?_
  refine Ow.icmpT (pc' := 54) B e6_38 (tlt (c13)).2.2.1 ?_
  refine Ow.aload (pc' := 56) B e6_54 ?_
  exact Ow.retA (S' := [r19]) (t := (.array .byte)) B e6_56 (Or.inr ⟨r19, k20, x11, rfl, ((((Keep.refl _ []).trans Kh2 (fun _ q => nomatch q)).trans Kh6 (allS (Or.inr (by omega)) all0)).trans Kh17 (fun _ q => nomatch q)), (by omega), List.mem_of_getElem? e12, c13, f21, rfl⟩)
theorem gCal0 (hw : Hw a0 Z) (G : Ow.Glo Z cz sf) (GS : GlS Z) {iof : Value} (GI : Sta Z Z.heap "jdk/internal/util/Preconditions" "IOOBE_FORMATTER" "Ljava/util/function/BiFunction;" iof ∧ iof.isRef = true) {h0 : Heap} (O0 : Old Z n0 h0) {t n : Nat} {kt : ClassId} {vs : List Value} (D : Arv Z h0 t kt .byte (Int32.ofNat n) vs (.int 0)) (hN : n ≤ 64) :
    Ow.Con l Z EL1 n0 my7 jdk_52_method_15_code 2 (Option.some Jvm.ClassFile.FieldType.byte) [] ({ frames := 0, cells := 0, slots := 0, locals := 0 } : Room) #[(.ref t), (.int (Int32.ofNat n))] [] h0 (fun v h S' => v = some (.int 0) ∧ h = h0 ∧ S' = []) := by
 refine Ow.Con.enter (Ls := #[vR t, vI (Int32.ofNat n)]) (plainFor_of_name pn0) O0 (hEW hw) (hSA hw) ?_
 intro p e s m below meth c B
 have z0 := Ow.old_le O0
 refine Ow.iloadN (pc' := 1) B e7_0 (Ow.aloadN (pc' := 2) B e7_1 ?_)
 refine Ow.arrlen (pc' := 3) B e7_2 D ?_
 refine Ow.isub (pc' := 4) (z := ((Int32.ofNat n) - (Int32.ofNat n))) B e7_3 ?_
 refine Ow.bipush (pc' := 6) (x := 31) B e7_4 ?_
 refine Ow.iushr (pc' := 7) (z := 0) (hz := Ow.cal0) B e7_6 ?_
 refine Ow.i2b (pc' := 8) (z := 0) B e7_7 ?_
 exact Ow.retI (S' := []) (t := .byte) B e7_8 (⟨rfl, rfl, rfl⟩)
theorem gCal1 (hw : Hw a0 Z) (G : Ow.Glo Z cz sf) (GS : GlS Z) {iof : Value} (GI : Sta Z Z.heap "jdk/internal/util/Preconditions" "IOOBE_FORMATTER" "Ljava/util/function/BiFunction;" iof ∧ iof.isRef = true) {h0 : Heap} (O0 : Old Z n0 h0) {t n : Nat} {kt : ClassId} {vs : List Value} (D : Arv Z h0 t kt .byte (Int32.ofNat (2 * n)) vs (.int 0)) (h0' : 0 < n) (hN : n ≤ 64) :
    Ow.Con l Z EL1 n0 my7 jdk_52_method_15_code 2 (Option.some Jvm.ClassFile.FieldType.byte) [] ({ frames := 0, cells := 0, slots := 0, locals := 0 } : Room) #[(.ref t), (.int (Int32.ofNat n))] [] h0 (fun v h S' => v = some (.int 1) ∧ h = h0 ∧ S' = []) := by
 refine Ow.Con.enter (Ls := #[vR t, vI (Int32.ofNat n)]) (plainFor_of_name pn0) O0 (hEW hw) (hSA hw) ?_
 intro p e s m below meth c B
 have z0 := Ow.old_le O0
 refine Ow.iloadN (pc' := 1) B e7_0 (Ow.aloadN (pc' := 2) B e7_1 ?_)
 refine Ow.arrlen (pc' := 3) B e7_2 D ?_
 refine Ow.isub (pc' := 4) (z := ((Int32.ofNat n) - (Int32.ofNat (2 * n)))) B e7_3 ?_
 refine Ow.bipush (pc' := 6) (x := 31) B e7_4 ?_
 refine Ow.iushr (pc' := 7) (z := 1) (hz := (Ow.cal1 h0')) B e7_6 ?_
 refine Ow.i2b (pc' := 8) (z := 1) B e7_7 ?_
 exact Ow.retI (S' := []) (t := .byte) B e7_8 (⟨rfl, rfl, rfl⟩)
theorem gIni2 (hw : Hw a0 Z) (G : Ow.Glo Z cz sf) (GS : GlS Z) {iof : Value} (GI : Sta Z Z.heap "jdk/internal/util/Preconditions" "IOOBE_FORMATTER" "Ljava/util/function/BiFunction;" iof ∧ iof.isRef = true) {h0 : Heap} (O0 : Old Z n0 h0) {a b : Nat} {ka : ClassId} {cs : List Int32} (A : Arv Z h0 a ka .char (Int32.ofNat cs.length) (Ow.CA cs) (.int 0)) (E : Exa Z h0 b "java/lang/String") (V : Fld Z h0 b "java/lang/String" "value" "[B" .null) (C : Fld Z h0 b "java/lang/String" "coder" "B" (.int 0)) (hb : n0 ≤ b) (hne : a ≠ b) (hR : Ow.Rng cs) (hC : cs.length ≤ 16) (hN : cs.length ≤ 64) :
    Ow.Con l Z EL1 n0 my8 jdk_42_method_149_code 6 (Option.none : Option Jvm.ClassFile.FieldType) [] ({ frames := 4, cells := 4, slots := 48, locals := 57 } : Room) #[(.ref b), (.ref a), (.int 0), (.int (Int32.ofNat cs.length)), .null] [b] h0 (fun v h S' => ∃ t : Nat, ∃ kt : ClassId, v = none ∧ Keep h0 h [b] ∧ Ow.Chs Z h b t kt cs ∧ S' = []) := by
 refine Ow.Con.enter (Ls := #[vR b, vR a, vI 0, vI (Int32.ofNat cs.length), .val .null, .unset]) (plainFor_of_name pn1) O0 (hEW hw) (hSA hw) ?_
 intro p e s m below meth c B
 have z0 := Ow.old_le O0
 have la : (a : Nat) < h0.size := A.lt
 have lb : (b : Nat) < h0.size := E.lt
 refine Ow.aloadN (pc' := 1) B e8_0 ?_
 refine Ow.objInit (pc' := 4) (W := 0) B e8_1 (w15 hw) (w16 hw) (w17 hw) ?_
 refine Ow.iloadN (pc' := 5) B e8_4 ?_
 by_cases c5 : (Int32.ofNat cs.length) = (0 : Int32)
 ·obtain rfl := Ow.nil0 c5 hN
  refine Ow.ifF (pc' := 8) B e8_5 (teq c5).2 ?_
  refine Ow.aloadN (pc' := 9) B e8_8 ?_
  refine Ow.ldcText (pc' := 11) (k' := 2) (n' := 4) (nn := 0) (vs := []) (z := 0) B e8_9 (w18 hw) (by decide) ⟨by decide, by decide⟩ (by decide) (by decide) ?_
  intro h2 a1 t3 kt3 Kh2 Ea1 Ca1 Va1 At3 Na1
  have zh2 := Kh2.1
  have la1 : (a1 : Nat) < h2.size := Ea1.lt
  have lt3 : (t3 : Nat) < h2.size := At3.lt
  have n4 : (b : Nat) ≠ a1 ∧ (b : Nat) ≠ t3 := Na1 b (by simp)
  refine Ow.getfield (pc' := 14) B e8_11 (w24 hw) Via.refl Va1 ?_
  have f5 := V.keep Kh2 Ow.nin0
  have f6 := E.keep Kh2
  refine Ow.putfield (pc' := 17) (ty := (.array .byte)) B e8_14 (w24 hw) Via.refl f5 f6 (Or.inr ⟨(w20 hw), rfl, rfl⟩) (w5 hw) (Or.inl (by simp)) ?_
  intro h7 Wh7
  have f8 := C.keep Kh2 Ow.nin0
  have Kh7 := Keep.of_wr Wh7
  have zh7 := Kh7.1
  have f9 : Fld Z h7 b "java/lang/String" "value" "[B" (.ref t3) := f5.same Wh7
  have f10 : Fld Z h7 b "java/lang/String" "coder" "B" (.int 0) := f8.other Wh7 (Or.inr (slot_ne (a0 := a0) (C := "java/lang/String") (t := .byte) (t' := (.array .byte)) (Or.inr (w21 hw)) (Or.inr (w20 hw)) (by decide) (by decide) (by decide)))
  refine Ow.aloadN (pc' := 18) B e8_17 ?_
  refine Ow.ldcText (pc' := 20) (k' := 4) (n' := 8) (nn := 0) (vs := []) (z := 0) B e8_18 (w18 hw) (by decide) ⟨by decide, by decide⟩ (by decide) (by decide) ?_
  intro h12 a11 t13 kt13 Kh12 Ea11 Ca11 Va11 At13 Na11
  have zh12 := Kh12.1
  have la11 : (a11 : Nat) < h12.size := Ea11.lt
  have lt13 : (t13 : Nat) < h12.size := At13.lt
  have n14 : (b : Nat) ≠ a11 ∧ (b : Nat) ≠ t13 := Na11 b (by simp)
  refine Ow.getfield (pc' := 23) B e8_20 (w25 hw) Via.refl Ca11 ?_
  have f15 := f10.keep Kh12 Ow.nin0
  have f16 := f6.keep Kh7
  have f17 := f16.keep Kh12
  refine Ow.putfield (pc' := 26) (ty := .byte) B e8_23 (w25 hw) Via.refl f15 f17 (Or.inr ⟨(w21 hw), rfl, rfl⟩) (w5 hw) (Or.inl (by simp)) ?_
  intro h18 Wh18
  have f19 := f9.keep Kh12 Ow.nin0
  have Kh18 := Keep.of_wr Wh18
  have zh18 := Kh18.1
  have f20 : Fld Z h18 b "java/lang/String" "coder" "B" (.int 0) := f15.same Wh18
  have f21 : Fld Z h18 b "java/lang/String" "value" "[B" (.ref t3) := f19.other Wh18 (Or.inr (slot_ne (a0 := a0) (C := "java/lang/String") (t := (.array .byte)) (t' := .byte) (Or.inr (w20 hw)) (Or.inr (w21 hw)) (by decide) (by decide) (by decide)))
  have f22 := f17.keep Kh18
  have f23 := At3.keep Kh7 (Ow.ninS (by omega) Ow.nin0)
  have f24 := f23.keep Kh12 Ow.nin0
  have f25 := f24.keep Kh18 (Ow.ninS (by omega) Ow.nin0)
  exact Ow.retV (S' := []) B e8_26 (⟨t3, kt3, rfl, (((((Keep.refl _ [b]).trans Kh2 (fun _ q => nomatch q)).trans Kh7 (allS (Or.inl (by simp)) all0)).trans Kh12 (fun _ q => nomatch q)).trans Kh18 (allS (Or.inl (by simp)) all0)), (Ow.Chs.nil f22 f21 f20 f25), rfl⟩)
 ·have hpos := Ow.pos0 c5
  refine Ow.ifT (pc' := 27) B e8_5 (feq c5).2 ?_
  refine Ow.getstatic (pc' := 30) B e8_27 (w66 hw) Via.refl G.1 ?_
  refine Ow.ifF (pc' := 33) B e8_30 (feq (G.2.1)).1 ?_
  refine Ow.aloadN (pc' := 34) B e8_33 (Ow.iloadN (pc' := 35) B e8_34 (Ow.iloadN (pc' := 36) B e8_35 ?_))
  refine Ow.Go.old (fun o26 => ?_)
  refine Ow.callStatic (pc' := 39) (W := 0) (k' := 2) (n' := 48) (argsL := [(.ref a), (.int 0), (.int (Int32.ofNat cs.length))]) (rest := []) B e8_36 (w70 hw) (w71 hw) (w72 hw) (w73 hw) (gCC hw G GS GI o26 A hR hC hN) pd4 ?_
  intro vq27 h28 S29 q27 zh28
  rcases q27 with q27 | q27
  ·obtain ⟨r30, k31, rfl, Kh28, br30, l33, f32, rfl⟩ := q27
   have lr30 : (r30 : Nat) < h28.size := f32.lt
   refine Ow.Go.norm (S' := [r30, b]) (st' := [(.ref r30)]) (fun _ q => q) rfl ?_
   refine Ow.astore (pc' := 41) (Ls' := #[vR b, vR a, vI 0, vI (Int32.ofNat cs.length), .val .null, vR r30]) B e8_39 ?_
   refine Ow.aloadN (pc' := 42) B e8_41 (Ow.aload (pc' := 44) B e8_42 (Ow.iloadN (pc' := 45) B e8_44 ?_))
   refine Ow.Go.old (fun o34 => ?_)
   refine Ow.callStatic (pc' := 48) (W := 1) (k' := 2) (n' := 48) (argsL := [(.ref r30), (.int (Int32.ofNat cs.length))]) (rest := [(.ref b)]) B e8_45 (w77 hw) (w78 hw) (w72 hw) (w79 hw) (gCal0 hw G GS GI (n := cs.length) o34 f32 (by omega)) pd6 ?_
   intro vq35 h36 S37 q35 zh36
   obtain ⟨rfl, rfl, rfl⟩ := q35
   refine Ow.Go.nr (S' := [r30, b]) (st' := [(.int 0), (.ref b)]) ?_
   have f38 := C.keep Kh28 Ow.nin0
   have f39 := E.keep Kh28
   refine Ow.putfield (pc' := 51) (ty := .byte) B e8_48 (w25 hw) Via.refl f38 f39 (Or.inr ⟨(w21 hw), rfl, rfl⟩) (w5 hw) (Or.inl (by simp)) ?_
   intro h40 Wh40
   have f41 := V.keep Kh28 Ow.nin0
   have Kh40 := Keep.of_wr Wh40
   have zh40 := Kh40.1
   have f42 : Fld Z h40 b "java/lang/String" "coder" "B" (.int 0) := f38.same Wh40
   have f43 : Fld Z h40 b "java/lang/String" "value" "[B" .null := f41.other Wh40 (Or.inr (slot_ne (a0 := a0) (C := "java/lang/String") (t := (.array .byte)) (t' := .byte) (Or.inr (w20 hw)) (Or.inr (w21 hw)) (by decide) (by decide) (by decide)))
   refine Ow.aloadN (pc' := 52) B e8_51 (Ow.aload (pc' := 54) B e8_52 ?_)
   have f44 := f39.keep Kh40
   refine Ow.putfield (pc' := 57) (ty := (.array .byte)) B e8_54 (w24 hw) Via.refl f43 f44 (Or.inr ⟨(w20 hw), rfl, rfl⟩) (w5 hw) (Or.inl (by simp)) ?_
   intro h45 Wh45
   have Kh45 := Keep.of_wr Wh45
   have zh45 := Kh45.1
   have f46 : Fld Z h45 b "java/lang/String" "value" "[B" (.ref r30) := f43.same Wh45
   have f47 : Fld Z h45 b "java/lang/String" "coder" "B" (.int 0) := f42.other Wh45 (Or.inr (slot_ne (a0 := a0) (C := "java/lang/String") (t := .byte) (t' := (.array .byte)) (Or.inr (w21 hw)) (Or.inr (w20 hw)) (by decide) (by decide) (by decide)))
   have f48 := f44.keep Kh45
   have f49 := f32.keep Kh40 (Ow.ninS (by omega) Ow.nin0)
   have f50 := f49.keep Kh45 (Ow.ninS (by omega) Ow.nin0)
   exact Ow.retV (S' := []) B e8_57 (⟨r30, k31, rfl, ((((Keep.refl _ [b]).trans Kh28 (fun _ q => nomatch q)).trans Kh40 (allS (Or.inl (by simp)) all0)).trans Kh45 (allS (Or.inl (by simp)) all0)), ⟨f48, f46, hR, Or.inl ⟨f47, f50, l33⟩⟩, rfl⟩)
  ·obtain ⟨r51, k52, x54, rfl, Kh28, br51, m55, c56, f53, rfl⟩ := q27
   have lr51 : (r51 : Nat) < h28.size := f53.lt
   refine Ow.Go.norm (S' := [r51, b]) (st' := [(.ref r51)]) (fun _ q => q) rfl ?_
   refine Ow.astore (pc' := 41) (Ls' := #[vR b, vR a, vI 0, vI (Int32.ofNat cs.length), .val .null, vR r51]) B e8_39 ?_
   refine Ow.aloadN (pc' := 42) B e8_41 (Ow.aload (pc' := 44) B e8_42 (Ow.iloadN (pc' := 45) B e8_44 ?_))
   refine Ow.Go.old (fun o57 => ?_)
   refine Ow.callStatic (pc' := 48) (W := 1) (k' := 2) (n' := 48) (argsL := [(.ref r51), (.int (Int32.ofNat cs.length))]) (rest := [(.ref b)]) B e8_45 (w77 hw) (w78 hw) (w72 hw) (w79 hw) (gCal1 hw G GS GI (n := cs.length) o57 f53 hpos (by omega)) pd6 ?_
   intro vq58 h59 S60 q58 zh59
   obtain ⟨rfl, rfl, rfl⟩ := q58
   refine Ow.Go.nr (S' := [r51, b]) (st' := [(.int 1), (.ref b)]) ?_
   have f61 := C.keep Kh28 Ow.nin0
   have f62 := E.keep Kh28
   refine Ow.putfield (pc' := 51) (ty := .byte) B e8_48 (w25 hw) Via.refl f61 f62 (Or.inr ⟨(w21 hw), rfl, rfl⟩) (w5 hw) (Or.inl (by simp)) ?_
   intro h63 Wh63
   have f64 := V.keep Kh28 Ow.nin0
   have Kh63 := Keep.of_wr Wh63
   have zh63 := Kh63.1
   have f65 : Fld Z h63 b "java/lang/String" "coder" "B" (.int 1) := f61.same Wh63
   have f66 : Fld Z h63 b "java/lang/String" "value" "[B" .null := f64.other Wh63 (Or.inr (slot_ne (a0 := a0) (C := "java/lang/String") (t := (.array .byte)) (t' := .byte) (Or.inr (w20 hw)) (Or.inr (w21 hw)) (by decide) (by decide) (by decide)))
   refine Ow.aloadN (pc' := 52) B e8_51 (Ow.aload (pc' := 54) B e8_52 ?_)
   have f67 := f62.keep Kh63
   refine Ow.putfield (pc' := 57) (ty := (.array .byte)) B e8_54 (w24 hw) Via.refl f66 f67 (Or.inr ⟨(w20 hw), rfl, rfl⟩) (w5 hw) (Or.inl (by simp)) ?_
   intro h68 Wh68
   have Kh68 := Keep.of_wr Wh68
   have zh68 := Kh68.1
   have f69 : Fld Z h68 b "java/lang/String" "value" "[B" (.ref r51) := f66.same Wh68
   have f70 : Fld Z h68 b "java/lang/String" "coder" "B" (.int 1) := f65.other Wh68 (Or.inr (slot_ne (a0 := a0) (C := "java/lang/String") (t := .byte) (t' := (.array .byte)) (Or.inr (w21 hw)) (Or.inr (w20 hw)) (by decide) (by decide) (by decide)))
   have f71 := f67.keep Kh68
   have f72 := f53.keep Kh63 (Ow.ninS (by omega) Ow.nin0)
   have f73 := f72.keep Kh68 (Ow.ninS (by omega) Ow.nin0)
   exact Ow.retV (S' := []) B e8_57 (⟨r51, k52, rfl, ((((Keep.refl _ [b]).trans Kh28 (fun _ q => nomatch q)).trans Kh63 (allS (Or.inl (by simp)) all0)).trans Kh68 (allS (Or.inl (by simp)) all0)), ⟨f71, f69, hR, Or.inr ⟨f70, f73, ⟨x54, m55, c56⟩⟩⟩, rfl⟩)
theorem gIni (hw : Hw a0 Z) (G : Ow.Glo Z cz sf) (GS : GlS Z) {iof : Value} (GI : Sta Z Z.heap "jdk/internal/util/Preconditions" "IOOBE_FORMATTER" "Ljava/util/function/BiFunction;" iof ∧ iof.isRef = true) {h0 : Heap} (O0 : Old Z n0 h0) {a b : Nat} {ka : ClassId} {cs : List Int32} (A : Arv Z h0 a ka .char (Int32.ofNat cs.length) (Ow.CA cs) (.int 0)) (E : Exa Z h0 b "java/lang/String") (V : Fld Z h0 b "java/lang/String" "value" "[B" .null) (C : Fld Z h0 b "java/lang/String" "coder" "B" (.int 0)) (hb : n0 ≤ b) (hne : a ≠ b) (hR : Ow.Rng cs) (hC : cs.length ≤ 16) (hN : cs.length ≤ 64) :
    Ow.Con l Z EL1 n0 my9 jdk_42_method_3_code 2 (Option.none : Option Jvm.ClassFile.FieldType) [] ({ frames := 5, cells := 4, slots := 48, locals := 74 } : Room) #[(.ref b), (.ref a)] [b] h0 (fun v h S' => ∃ t : Nat, ∃ kt : ClassId, v = none ∧ Keep h0 h [b] ∧ Ow.Chs Z h b t kt cs ∧ S' = []) := by
 refine Ow.Con.enter (Ls := #[vR b, vR a]) (plainFor_of_name pn1) O0 (hEW hw) (hSA hw) ?_
 intro p e s m below meth c B
 have z0 := Ow.old_le O0
 have la : (a : Nat) < h0.size := A.lt
 have lb : (b : Nat) < h0.size := E.lt
 refine Ow.aloadN (pc' := 1) B e9_0 (Ow.aloadN (pc' := 2) B e9_1 (Ow.iconst (pc' := 3) (x := 0) B e9_2 (Ow.aloadN (pc' := 4) B e9_3 ?_)))
 refine Ow.arrlen (pc' := 5) B e9_4 A ?_
 refine Ow.aconstNull (pc' := 6) B e9_5 ?_
 refine Ow.Go.old (fun o1 => ?_)
 refine Ow.callInit (pc' := 9) (W := 0) (k' := 4) (n' := 48) (argsL := [(.ref a), (.int 0), (.int (Int32.ofNat cs.length)), .null]) (rest := []) B e9_6 (w11 hw) (w12 hw) (w6 hw) (w14 hw) (gIni2 hw G GS GI o1 A E V C (by omega) (by omega) hR hC hN) pd7 ?_
 intro vq2 h3 S4 q2 zh3
 obtain ⟨t5, k6, rfl, Kh3, f7, rfl⟩ := q2
 refine Ow.Go.nr (S' := [b]) (st' := []) ?_
 exact Ow.retV (S' := []) B e9_9 (⟨t5, k6, rfl, ((Keep.refl _ [b]).trans Kh3 (allS (Or.inl (by simp)) all0)), f7, rfl⟩)
theorem con_coder_1 (hw : Hw a0 Z) (G : Ow.Glo Z cz sf) (GS : GlS Z) {iof : Value} (GI : Sta Z Z.heap "jdk/internal/util/Preconditions" "IOOBE_FORMATTER" "Ljava/util/function/BiFunction;" iof ∧ iof.isRef = true) {pa0 : Nat} {h0 : Heap} (O0 : Old Z n0 h0) (hf0 : Fld Z h0 pa0 "java/lang/String" "coder" "B" (.int 0)) :
    Ow.Con l Z EL1 n0 my10 jdk_42_method_152_code 1 (Option.some Jvm.ClassFile.FieldType.byte) [] ({ frames := 0, cells := 0, slots := 0, locals := 0 } : Room) #[(.ref pa0)] [] h0 (fun v h S' => (v = some (.int 0) ∧ h = h0 ∧ S' = [])) := by
 refine Ow.Con.enter (Ls := #[vR pa0]) (plainFor_of_name pn1) O0 (hEW hw) (hSA hw) ?_
 intro p e s m below meth c B
 have z0 := Ow.old_le O0
 have lpa0 : (pa0 : Nat) < h0.size := hf0.lt
 refine Ow.getstatic (pc' := 3) B e11_0 (w66 hw) Via.refl G.1 ?_
 refine Ow.ifF (pc' := 6) B e11_3 (feq (G.2.1)).1 ?_
 refine Ow.aloadN (pc' := 7) B e11_6 ?_
 refine Ow.getfield (pc' := 10) B e11_7 (w25 hw) Via.refl hf0 ?_
 refine Ow.goto (pc' := 14) B e11_10 ?_
 exact Ow.retI (S' := []) (t := .byte) B e11_14 (⟨rfl, rfl, rfl⟩)
theorem con_coder_2 (hw : Hw a0 Z) (G : Ow.Glo Z cz sf) (GS : GlS Z) {iof : Value} (GI : Sta Z Z.heap "jdk/internal/util/Preconditions" "IOOBE_FORMATTER" "Ljava/util/function/BiFunction;" iof ∧ iof.isRef = true) {pa0 : Nat} {h0 : Heap} (O0 : Old Z n0 h0) (hf0 : Fld Z h0 pa0 "java/lang/String" "coder" "B" (.int 1)) :
    Ow.Con l Z EL1 n0 my10 jdk_42_method_152_code 1 (Option.some Jvm.ClassFile.FieldType.byte) [] ({ frames := 0, cells := 0, slots := 0, locals := 0 } : Room) #[(.ref pa0)] [] h0 (fun v h S' => (v = some (.int 1) ∧ h = h0 ∧ S' = [])) := by
 refine Ow.Con.enter (Ls := #[vR pa0]) (plainFor_of_name pn1) O0 (hEW hw) (hSA hw) ?_
 intro p e s m below meth c B
 have z0 := Ow.old_le O0
 have lpa0 : (pa0 : Nat) < h0.size := hf0.lt
 refine Ow.getstatic (pc' := 3) B e11_0 (w66 hw) Via.refl G.1 ?_
 refine Ow.ifF (pc' := 6) B e11_3 (feq (G.2.1)).1 ?_
 refine Ow.aloadN (pc' := 7) B e11_6 ?_
 refine Ow.getfield (pc' := 10) B e11_7 (w25 hw) Via.refl hf0 ?_
 refine Ow.goto (pc' := 14) B e11_10 ?_
 exact Ow.retI (S' := []) (t := .byte) B e11_14 (⟨rfl, rfl, rfl⟩)
theorem gLen (hw : Hw a0 Z) (G : Ow.Glo Z cz sf) (GS : GlS Z) {iof : Value} (GI : Sta Z Z.heap "jdk/internal/util/Preconditions" "IOOBE_FORMATTER" "Ljava/util/function/BiFunction;" iof ∧ iof.isRef = true) {h0 : Heap} (O0 : Old Z n0 h0) {b t : Nat} {kt : ClassId} {cs : List Int32} (F : Ow.Chs Z h0 b t kt cs) (hN : cs.length ≤ 64) :
    Ow.Con l Z EL1 n0 my11 jdk_42_method_54_code 1 (Option.some Jvm.ClassFile.FieldType.int) [] ({ frames := 1, cells := 0, slots := 0, locals := 13 } : Room) #[(.ref b)] [] h0 (fun v h S' => v = some (.int (Int32.ofNat cs.length)) ∧ h = h0 ∧ S' = []) := by
 rcases F.2.2.2 with ⟨oc, oa, ol⟩ | ⟨oc, oa, ou⟩
 ·refine Ow.Con.enter (Ls := #[vR b]) (plainFor_of_name pn1) O0 (hEW hw) (hSA hw) ?_
  intro p e s m below meth c B
  have z0 := Ow.old_le O0
  refine Ow.aloadN (pc' := 1) B e10_0 ?_
  refine Ow.getfield (pc' := 4) B e10_1 (w24 hw) Via.refl F.2.1 ?_
  refine Ow.arrlen (pc' := 5) B e10_4 oa ?_
  refine Ow.aloadN (pc' := 6) B e10_5 ?_
  refine Ow.Go.old (fun o1 => ?_)
  refine Ow.callVirtual (pc' := 9) (W := 1) (k' := 0) (n' := 0) (argsL := []) (rest := [(.int (Int32.ofNat cs.length))]) (K := "java/lang/String") B e10_6 (w61 hw) (w62 hw) (w64 hw) (w64 hw) (w63 hw) (w6 hw) (w65 hw) F.1 (con_coder_1 hw G GS GI (pa0 := b) o1 oc) pd8 ?_
  intro vq2 h3 S4 q2 zh3
  obtain ⟨rfl, rfl, rfl⟩ := q2
  refine Ow.Go.nr (S' := []) (st' := [(.int 0), (.int (Int32.ofNat cs.length))]) ?_
  refine Ow.ishr (pc' := 10) (z := (Int32.ofNat cs.length)) (hz := (Ow.shr0 _)) B e10_9 ?_
  exact Ow.retI (S' := []) (t := .int) B e10_10 (⟨rfl, rfl, rfl⟩)
 ·refine Ow.Con.enter (Ls := #[vR b]) (plainFor_of_name pn1) O0 (hEW hw) (hSA hw) ?_
  intro p e s m below meth c B
  have z0 := Ow.old_le O0
  refine Ow.aloadN (pc' := 1) B e10_0 ?_
  refine Ow.getfield (pc' := 4) B e10_1 (w24 hw) Via.refl F.2.1 ?_
  refine Ow.arrlen (pc' := 5) B e10_4 oa ?_
  refine Ow.aloadN (pc' := 6) B e10_5 ?_
  refine Ow.Go.old (fun o1 => ?_)
  refine Ow.callVirtual (pc' := 9) (W := 1) (k' := 0) (n' := 0) (argsL := []) (rest := [(.int (Int32.ofNat (2 * cs.length)))]) (K := "java/lang/String") B e10_6 (w61 hw) (w62 hw) (w64 hw) (w64 hw) (w63 hw) (w6 hw) (w65 hw) F.1 (con_coder_2 hw G GS GI (pa0 := b) o1 oc) pd8 ?_
  intro vq2 h3 S4 q2 zh3
  obtain ⟨rfl, rfl, rfl⟩ := q2
  refine Ow.Go.nr (S' := []) (st' := [(.int 1), (.int (Int32.ofNat (2 * cs.length)))]) ?_
  refine Ow.ishr (pc' := 10) (z := (Int32.ofNat cs.length)) (hz := (Ow.nH (by omega))) B e10_9 ?_
  exact Ow.retI (S' := []) (t := .int) B e10_10 (⟨rfl, rfl, rfl⟩)
theorem con_checkIndex_3 (hw : Hw a0 Z) (G : Ow.Glo Z cz sf) (GS : GlS Z) {iof : Value} (GI : Sta Z Z.heap "jdk/internal/util/Preconditions" "IOOBE_FORMATTER" "Ljava/util/function/BiFunction;" iof ∧ iof.isRef = true) {px0 : Int32} {px1 : Int32} {pv0 : Value} {h0 : Heap} (O0 : Old Z n0 h0) (hk0 : ¬ (px0 < (0 : Int32))) (hk1 : px0 < px1) (hv_pv0 : pv0.isRef = true) :
    Ow.Con l Z EL1 n0 my12 jdk_41_method_11_code 3 (Option.some Jvm.ClassFile.FieldType.int) [] ({ frames := 0, cells := 0, slots := 0, locals := 0 } : Room) #[(.int px0), (.int px1), pv0] [] h0 (fun v h S' => (v = some (.int px0) ∧ h = h0 ∧ S' = [])) := by
 rcases ref_cases hv_pv0 with rfl | ⟨sa_pv0, rfl⟩
 ·refine Ow.Con.enter (Ls := #[vI px0, vI px1, .val .null]) (plainFor_of_name pn3) O0 (hEW hw) (hSA hw) ?_
  intro p e s m below meth c B
  have z0 := Ow.old_le O0
  refine Ow.iloadN (pc' := 1) B e14_0 ?_
  refine Ow.ifF (pc' := 4) B e14_1 (flt (hk0)).1 ?_
  refine Ow.iloadN (pc' := 5) B e14_4 (Ow.iloadN (pc' := 6) B e14_5 ?_)
  refine Ow.icmpT (pc' := 16) B e14_6 (tlt (hk1)).1 ?_
  refine Ow.iloadN (pc' := 17) B e14_16 ?_
  exact Ow.retI (S' := []) (t := .int) B e14_17 (⟨rfl, rfl, rfl⟩)
 ·refine Ow.Con.enter (Ls := #[vI px0, vI px1, vR sa_pv0]) (plainFor_of_name pn3) O0 (hEW hw) (hSA hw) ?_
  intro p e s m below meth c B
  have z0 := Ow.old_le O0
  refine Ow.iloadN (pc' := 1) B e14_0 ?_
  refine Ow.ifF (pc' := 4) B e14_1 (flt (hk0)).1 ?_
  refine Ow.iloadN (pc' := 5) B e14_4 (Ow.iloadN (pc' := 6) B e14_5 ?_)
  refine Ow.icmpT (pc' := 16) B e14_6 (tlt (hk1)).1 ?_
  refine Ow.iloadN (pc' := 17) B e14_16 ?_
  exact Ow.retI (S' := []) (t := .int) B e14_17 (⟨rfl, rfl, rfl⟩)
theorem con_checkIndex_4 (hw : Hw a0 Z) (G : Ow.Glo Z cz sf) (GS : GlS Z) {iof : Value} (GI : Sta Z Z.heap "jdk/internal/util/Preconditions" "IOOBE_FORMATTER" "Ljava/util/function/BiFunction;" iof ∧ iof.isRef = true) {px0 : Int32} {px1 : Int32} {h0 : Heap} (O0 : Old Z n0 h0) (hk0 : ¬ (px0 < (0 : Int32))) (hk1 : px0 < px1) :
    Ow.Con l Z EL1 n0 my13 jdk_42_method_155_code 2 (Option.none : Option Jvm.ClassFile.FieldType) [] ({ frames := 1, cells := 0, slots := 0, locals := 14 } : Room) #[(.int px0), (.int px1)] [] h0 (fun v h S' => (v = none ∧ h = h0 ∧ S' = [])) := by
 refine Ow.Con.enter (Ls := #[vI px0, vI px1]) (plainFor_of_name pn1) O0 (hEW hw) (hSA hw) ?_
 intro p e s m below meth c B
 have z0 := Ow.old_le O0
 refine Ow.iloadN (pc' := 1) B e13_0 (Ow.iloadN (pc' := 2) B e13_1 ?_)
 refine Ow.getstatic (pc' := 5) B e13_2 (w204 hw) Via.refl G.2.2.1 ?_
 refine Ow.Go.old (fun o1 => ?_)
 refine Ow.callStatic (pc' := 8) (W := 0) (k' := 0) (n' := 0) (argsL := [(.int px0), (.int px1), sf]) (rest := []) B e13_5 (w205 hw) (w206 hw) (w118 hw) (w207 hw) (con_checkIndex_3 hw G GS GI (px0 := px0) (px1 := px1) (pv0 := sf) o1 (hk0) (hk1) (G.2.2.2)) pd9 ?_
 intro vq2 h3 S4 q2 zh3
 obtain ⟨rfl, rfl, rfl⟩ := q2
 refine Ow.Go.nr (S' := []) (st' := [(.int px0)]) ?_
 refine Ow.pop (pc' := 9) B e13_8 ?_
 exact Ow.retV (S' := []) B e13_9 (⟨rfl, rfl, rfl⟩)
theorem gLca (hw : Hw a0 Z) (G : Ow.Glo Z cz sf) (GS : GlS Z) {iof : Value} (GI : Sta Z Z.heap "jdk/internal/util/Preconditions" "IOOBE_FORMATTER" "Ljava/util/function/BiFunction;" iof ∧ iof.isRef = true) {h0 : Heap} (O0 : Old Z n0 h0) {t j : Nat} {kt : ClassId} {x : Int32} {cs : List Int32} (D : Arv Z h0 t kt .byte (Int32.ofNat cs.length) (Ow.LB cs) (.int 0)) (hx : cs[j]? = some x) (r0 : ¬ x < (0 : Int32)) (r1 : ¬ (255 : Int32) < x) (hN : cs.length ≤ 64) :
    Ow.Con l Z EL1 n0 my14 jdk_43_method_2_code 2 (Option.some Jvm.ClassFile.FieldType.char) [] ({ frames := 2, cells := 0, slots := 0, locals := 27 } : Room) #[(.ref t), (.int (Int32.ofNat j))] [] h0 (fun v h S' => v = some (.int x) ∧ h = h0 ∧ S' = []) := by
 refine Ow.Con.enter (Ls := #[vR t, vI (Int32.ofNat j)]) (plainFor_of_name pn2) O0 (hEW hw) (hSA hw) ?_
 intro p e s m below meth c B
 have z0 := Ow.old_le O0
 have hj := (List.getElem?_eq_some_iff.mp hx).1
 refine Ow.iloadN (pc' := 1) B e12_0 (Ow.aloadN (pc' := 2) B e12_1 ?_)
 refine Ow.arrlen (pc' := 3) B e12_2 D ?_
 refine Ow.Go.old (fun o1 => ?_)
 refine Ow.callStatic (pc' := 6) (W := 0) (k' := 0) (n' := 0) (argsL := [(.int (Int32.ofNat j)), (.int (Int32.ofNat cs.length))]) (rest := []) B e12_3 (w201 hw) (w202 hw) (w6 hw) (w203 hw) (con_checkIndex_4 hw G GS GI (px0 := (Int32.ofNat j)) (px1 := (Int32.ofNat cs.length)) o1 (Ow.nn) ((Ow.nlT hj))) pd10 ?_
 intro vq2 h3 S4 q2 zh3
 obtain ⟨rfl, rfl, rfl⟩ := q2
 refine Ow.Go.nr (S' := []) (st' := []) ?_
 refine Ow.aloadN (pc' := 7) B e12_6 (Ow.iloadN (pc' := 8) B e12_7 ?_)
 refine Ow.baload (pc' := 9) (v := (.int x.toInt8.toInt32)) B e12_8 D ⟨Ow.nn, Ow.nlT hj⟩ (by rw [Ow.nc]; exact Ow.gD (Ow.LBa hx)) ?_
 refine Ow.sipush (pc' := 12) (x := 255) B e12_9 ?_
 refine Ow.iand (pc' := 13) (z := x) (hz := (Ow.b255 (r0) (r1))) B e12_12 ?_
 refine Ow.i2c (pc' := 14) (z := x) (hz := (Ow.c_id (r0) (r1))) B e12_13 ?_
 exact Ow.retI (S' := []) (t := .char) (hnn := (Ow.cnarrow (Ow.nar_id (r0) (r1)))) B e12_14 (⟨rfl, rfl, rfl⟩)
theorem gUln (hw : Hw a0 Z) (G : Ow.Glo Z cz sf) (GS : GlS Z) {iof : Value} (GI : Sta Z Z.heap "jdk/internal/util/Preconditions" "IOOBE_FORMATTER" "Ljava/util/function/BiFunction;" iof ∧ iof.isRef = true) {h0 : Heap} (O0 : Old Z n0 h0) {t n : Nat} {kt : ClassId} {vs : List Value} (D : Arv Z h0 t kt .byte (Int32.ofNat (2 * n)) vs (.int 0)) (hN : n ≤ 64) :
    Ow.Con l Z EL1 n0 my15 jdk_52_method_6_code 1 (Option.some Jvm.ClassFile.FieldType.int) [] ({ frames := 0, cells := 0, slots := 0, locals := 0 } : Room) #[(.ref t)] [] h0 (fun v h S' => v = some (.int (Int32.ofNat n)) ∧ h = h0 ∧ S' = []) := by
 refine Ow.Con.enter (Ls := #[vR t]) (plainFor_of_name pn0) O0 (hEW hw) (hSA hw) ?_
 intro p e s m below meth c B
 have z0 := Ow.old_le O0
 refine Ow.aloadN (pc' := 1) B e15_0 ?_
 refine Ow.arrlen (pc' := 2) B e15_1 D ?_
 refine Ow.iconst (pc' := 3) (x := 1) B e15_2 ?_
 refine Ow.ishr (pc' := 4) (z := (Int32.ofNat n)) (hz := (Ow.nH (by omega))) B e15_3 ?_
 exact Ow.retI (S' := []) (t := .int) B e15_4 (⟨rfl, rfl, rfl⟩)
theorem gUci (hw : Hw a0 Z) (G : Ow.Glo Z cz sf) (GS : GlS Z) {iof : Value} (GI : Sta Z Z.heap "jdk/internal/util/Preconditions" "IOOBE_FORMATTER" "Ljava/util/function/BiFunction;" iof ∧ iof.isRef = true) {h0 : Heap} (O0 : Old Z n0 h0) {t j : Nat} {kt : ClassId} {cs : List Int32} (D : Arv Z h0 t kt .byte (Int32.ofNat (2 * cs.length)) (Ow.UB cs) (.int 0)) (hj : j < cs.length) (hN : cs.length ≤ 64) :
    Ow.Con l Z EL1 n0 my16 jdk_52_method_91_code 2 (Option.none : Option Jvm.ClassFile.FieldType) [] ({ frames := 2, cells := 0, slots := 0, locals := 27 } : Room) #[(.int (Int32.ofNat j)), (.ref t)] [] h0 (fun v h S' => v = none ∧ h = h0 ∧ S' = []) := by
 refine Ow.Con.enter (Ls := #[vI (Int32.ofNat j), vR t]) (plainFor_of_name pn0) O0 (hEW hw) (hSA hw) ?_
 intro p e s m below meth c B
 have z0 := Ow.old_le O0
 refine Ow.iloadN (pc' := 1) B e16_0 (Ow.aloadN (pc' := 2) B e16_1 ?_)
 refine Ow.Go.old (fun o1 => ?_)
 refine Ow.callStatic (pc' := 5) (W := 1) (k' := 0) (n' := 0) (argsL := [(.ref t)]) (rest := [(.int (Int32.ofNat j))]) B e16_2 (w273 hw) (w274 hw) (w72 hw) (w275 hw) (gUln hw G GS GI o1 D hN) pd11 ?_
 intro vq2 h3 S4 q2 zh3
 obtain ⟨rfl, rfl, rfl⟩ := q2
 refine Ow.Go.nr (S' := []) (st' := [(.int (Int32.ofNat cs.length)), (.int (Int32.ofNat j))]) ?_
 refine Ow.Go.old (fun o5 => ?_)
 refine Ow.callStatic (pc' := 8) (W := 0) (k' := 0) (n' := 0) (argsL := [(.int (Int32.ofNat j)), (.int (Int32.ofNat cs.length))]) (rest := []) B e16_5 (w309 hw) (w202 hw) (w6 hw) (w203 hw) (con_checkIndex_4 hw G GS GI (px0 := (Int32.ofNat j)) (px1 := (Int32.ofNat cs.length)) o5 (Ow.nn) ((Ow.nlT hj))) pd10 ?_
 intro vq6 h7 S8 q6 zh7
 obtain ⟨rfl, rfl, rfl⟩ := q6
 refine Ow.Go.nr (S' := []) (st' := []) ?_
 exact Ow.retV (S' := []) B e16_8 (⟨rfl, rfl, rfl⟩)
theorem gUca (hw : Hw a0 Z) (G : Ow.Glo Z cz sf) (GS : GlS Z) {iof : Value} (GI : Sta Z Z.heap "jdk/internal/util/Preconditions" "IOOBE_FORMATTER" "Ljava/util/function/BiFunction;" iof ∧ iof.isRef = true) {h0 : Heap} (O0 : Old Z n0 h0) {t j : Nat} {kt : ClassId} {x : Int32} {cs : List Int32} (D : Arv Z h0 t kt .byte (Int32.ofNat (2 * cs.length)) (Ow.UB cs) (.int 0)) (hx : cs[j]? = some x) (r0 : ¬ x < (0 : Int32)) (r1 : ¬ (65535 : Int32) < x) (hN : cs.length ≤ 64) :
    Ow.Con l Z EL1 n0 my17 jdk_52_method_83_code 2 (Option.some Jvm.ClassFile.FieldType.char) [] ({ frames := 3, cells := 0, slots := 0, locals := 40 } : Room) #[(.ref t), (.int (Int32.ofNat j))] [] h0 (fun v h S' => v = some (.int x) ∧ h = h0 ∧ S' = []) := by
 refine Ow.Con.enter (Ls := #[vR t, vI (Int32.ofNat j)]) (plainFor_of_name pn0) O0 (hEW hw) (hSA hw) ?_
 intro p e s m below meth c B
 have z0 := Ow.old_le O0
 have hj := (List.getElem?_eq_some_iff.mp hx).1
 refine Ow.iloadN (pc' := 1) B e17_0 (Ow.aloadN (pc' := 2) B e17_1 ?_)
 refine Ow.Go.old (fun o1 => ?_)
 refine Ow.callStatic (pc' := 5) (W := 0) (k' := 0) (n' := 0) (argsL := [(.int (Int32.ofNat j)), (.ref t)]) (rest := []) B e17_2 (w306 hw) (w307 hw) (w72 hw) (w308 hw) (gUci hw G GS GI o1 D hj hN) pd12 ?_
 intro vq2 h3 S4 q2 zh3
 obtain ⟨rfl, rfl, rfl⟩ := q2
 refine Ow.Go.nr (S' := []) (st' := []) ?_
 refine Ow.aloadN (pc' := 6) B e17_5 (Ow.iloadN (pc' := 7) B e17_6 ?_)
 refine Ow.Go.old (fun o5 => ?_)
 refine Ow.callStatic (pc' := 10) (W := 0) (k' := 0) (n' := 0) (argsL := [(.ref t), (.int (Int32.ofNat j))]) (rest := []) B e17_7 (w224 hw) (w225 hw) (w72 hw) (w226 hw) (gGetc hw G GS GI o5 D hx r0 r1 hN) pd5 ?_
 intro vq6 h7 S8 q6 zh7
 obtain ⟨rfl, rfl, rfl⟩ := q6
 refine Ow.Go.nr (S' := []) (st' := [(.int x)]) ?_
 exact Ow.retI (S' := []) (t := .char) (hnn := (Ow.cnarrow (Ow.nar_id16 (r0) (r1)))) B e17_10 (⟨rfl, rfl, rfl⟩)
theorem con_isLatin1_5 (hw : Hw a0 Z) (G : Ow.Glo Z cz sf) (GS : GlS Z) {iof : Value} (GI : Sta Z Z.heap "jdk/internal/util/Preconditions" "IOOBE_FORMATTER" "Ljava/util/function/BiFunction;" iof ∧ iof.isRef = true) {pa0 : Nat} {h0 : Heap} (O0 : Old Z n0 h0) (hf0 : Fld Z h0 pa0 "java/lang/String" "coder" "B" (.int 0)) :
    Ow.Con l Z EL1 n0 my18 jdk_42_method_154_code 1 (Option.some Jvm.ClassFile.FieldType.boolean) [] ({ frames := 0, cells := 0, slots := 0, locals := 0 } : Room) #[(.ref pa0)] [] h0 (fun v h S' => (v = some (.int 1) ∧ h = h0 ∧ S' = [])) := by
 refine Ow.Con.enter (Ls := #[vR pa0]) (plainFor_of_name pn1) O0 (hEW hw) (hSA hw) ?_
 intro p e s m below meth c B
 have z0 := Ow.old_le O0
 have lpa0 : (pa0 : Nat) < h0.size := hf0.lt
 refine Ow.getstatic (pc' := 3) B e19_0 (w66 hw) Via.refl G.1 ?_
 refine Ow.ifF (pc' := 6) B e19_3 (feq (G.2.1)).1 ?_
 refine Ow.aloadN (pc' := 7) B e19_6 ?_
 refine Ow.getfield (pc' := 10) B e19_7 (w25 hw) Via.refl hf0 ?_
 refine Ow.ifF (pc' := 13) B e19_10 (by decide) ?_
 refine Ow.iconst (pc' := 14) (x := 1) B e19_13 ?_
 refine Ow.goto (pc' := 18) B e19_14 ?_
 exact Ow.retI (S' := []) (t := .boolean) B e19_18 (⟨rfl, rfl, rfl⟩)
theorem con_isLatin1_6 (hw : Hw a0 Z) (G : Ow.Glo Z cz sf) (GS : GlS Z) {iof : Value} (GI : Sta Z Z.heap "jdk/internal/util/Preconditions" "IOOBE_FORMATTER" "Ljava/util/function/BiFunction;" iof ∧ iof.isRef = true) {pa0 : Nat} {h0 : Heap} (O0 : Old Z n0 h0) (hf0 : Fld Z h0 pa0 "java/lang/String" "coder" "B" (.int 1)) :
    Ow.Con l Z EL1 n0 my18 jdk_42_method_154_code 1 (Option.some Jvm.ClassFile.FieldType.boolean) [] ({ frames := 0, cells := 0, slots := 0, locals := 0 } : Room) #[(.ref pa0)] [] h0 (fun v h S' => (v = some (.int 0) ∧ h = h0 ∧ S' = [])) := by
 refine Ow.Con.enter (Ls := #[vR pa0]) (plainFor_of_name pn1) O0 (hEW hw) (hSA hw) ?_
 intro p e s m below meth c B
 have z0 := Ow.old_le O0
 have lpa0 : (pa0 : Nat) < h0.size := hf0.lt
 refine Ow.getstatic (pc' := 3) B e19_0 (w66 hw) Via.refl G.1 ?_
 refine Ow.ifF (pc' := 6) B e19_3 (feq (G.2.1)).1 ?_
 refine Ow.aloadN (pc' := 7) B e19_6 ?_
 refine Ow.getfield (pc' := 10) B e19_7 (w25 hw) Via.refl hf0 ?_
 refine Ow.ifT (pc' := 17) B e19_10 (by decide) ?_
 refine Ow.iconst (pc' := 18) (x := 0) B e19_17 ?_
 exact Ow.retI (S' := []) (t := .boolean) B e19_18 (⟨rfl, rfl, rfl⟩)
theorem gCha (hw : Hw a0 Z) (G : Ow.Glo Z cz sf) (GS : GlS Z) {iof : Value} (GI : Sta Z Z.heap "jdk/internal/util/Preconditions" "IOOBE_FORMATTER" "Ljava/util/function/BiFunction;" iof ∧ iof.isRef = true) {h0 : Heap} (O0 : Old Z n0 h0) {b t j : Nat} {kt : ClassId} {x : Int32} {cs : List Int32} (F : Ow.Chs Z h0 b t kt cs) (hx : cs[j]? = some x) (hN : cs.length ≤ 64) :
    Ow.Con l Z EL1 n0 my19 jdk_42_method_56_code 2 (Option.some Jvm.ClassFile.FieldType.char) [] ({ frames := 4, cells := 0, slots := 0, locals := 53 } : Room) #[(.ref b), (.int (Int32.ofNat j))] [] h0 (fun v h S' => v = some (.int x) ∧ h = h0 ∧ S' = []) := by
 rcases F.2.2.2 with ⟨oc, oa, ol⟩ | ⟨oc, oa, ou⟩
 ·refine Ow.Con.enter (Ls := #[vR b, vI (Int32.ofNat j)]) (plainFor_of_name pn1) O0 (hEW hw) (hSA hw) ?_
  intro p e s m below meth c B
  have z0 := Ow.old_le O0
  have hj := (List.getElem?_eq_some_iff.mp hx).1
  have hm := List.mem_of_getElem? hx
  refine Ow.aloadN (pc' := 1) B e18_0 ?_
  refine Ow.Go.old (fun o1 => ?_)
  refine Ow.callVirtual (pc' := 4) (W := 0) (k' := 0) (n' := 0) (argsL := []) (rest := []) (K := "java/lang/String") B e18_1 (w193 hw) (w194 hw) (w196 hw) (w196 hw) (w195 hw) (w6 hw) (w197 hw) F.1 (con_isLatin1_5 hw G GS GI (pa0 := b) o1 oc) pd13 ?_
  intro vq2 h3 S4 q2 zh3
  obtain ⟨rfl, rfl, rfl⟩ := q2
  refine Ow.Go.nr (S' := []) (st' := [(.int 1)]) ?_
  refine Ow.ifF (pc' := 7) B e18_4 (by decide) ?_
  refine Ow.aloadN (pc' := 8) B e18_7 ?_
  refine Ow.getfield (pc' := 11) B e18_8 (w24 hw) Via.refl F.2.1 ?_
  refine Ow.iloadN (pc' := 12) B e18_11 ?_
  refine Ow.Go.old (fun o5 => ?_)
  refine Ow.callStatic (pc' := 15) (W := 0) (k' := 0) (n' := 0) (argsL := [(.ref t), (.int (Int32.ofNat j))]) (rest := []) B e18_12 (w198 hw) (w199 hw) (w142 hw) (w200 hw) (gLca hw G GS GI o5 oa hx (F.2.2.1 x hm).1 (ol x hm) hN) pd5 ?_
  intro vq6 h7 S8 q6 zh7
  obtain ⟨rfl, rfl, rfl⟩ := q6
  refine Ow.Go.nr (S' := []) (st' := [(.int x)]) ?_
  exact Ow.retI (S' := []) (t := .char) (hnn := (Ow.cnarrow (Ow.nar_id16 ((F.2.2.1 x hm).1) ((F.2.2.1 x hm).2)))) B e18_15 (⟨rfl, rfl, rfl⟩)
 ·refine Ow.Con.enter (Ls := #[vR b, vI (Int32.ofNat j)]) (plainFor_of_name pn1) O0 (hEW hw) (hSA hw) ?_
  intro p e s m below meth c B
  have z0 := Ow.old_le O0
  have hj := (List.getElem?_eq_some_iff.mp hx).1
  have hm := List.mem_of_getElem? hx
  refine Ow.aloadN (pc' := 1) B e18_0 ?_
  refine Ow.Go.old (fun o1 => ?_)
  refine Ow.callVirtual (pc' := 4) (W := 0) (k' := 0) (n' := 0) (argsL := []) (rest := []) (K := "java/lang/String") B e18_1 (w193 hw) (w194 hw) (w196 hw) (w196 hw) (w195 hw) (w6 hw) (w197 hw) F.1 (con_isLatin1_6 hw G GS GI (pa0 := b) o1 oc) pd13 ?_
  intro vq2 h3 S4 q2 zh3
  obtain ⟨rfl, rfl, rfl⟩ := q2
  refine Ow.Go.nr (S' := []) (st' := [(.int 0)]) ?_
  refine Ow.ifT (pc' := 16) B e18_4 (by decide) ?_
  refine Ow.aloadN (pc' := 17) B e18_16 ?_
  refine Ow.getfield (pc' := 20) B e18_17 (w24 hw) Via.refl F.2.1 ?_
  refine Ow.iloadN (pc' := 21) B e18_20 ?_
  refine Ow.Go.old (fun o5 => ?_)
  refine Ow.callStatic (pc' := 24) (W := 0) (k' := 0) (n' := 0) (argsL := [(.ref t), (.int (Int32.ofNat j))]) (rest := []) B e18_21 (w303 hw) (w304 hw) (w72 hw) (w305 hw) (gUca hw G GS GI o5 oa hx (F.2.2.1 x hm).1 (F.2.2.1 x hm).2 hN) pd5 ?_
  intro vq6 h7 S8 q6 zh7
  obtain ⟨rfl, rfl, rfl⟩ := q6
  refine Ow.Go.nr (S' := []) (st' := [(.int x)]) ?_
  exact Ow.retI (S' := []) (t := .char) (hnn := (Ow.cnarrow (Ow.nar_id16 ((F.2.2.1 x hm).1) ((F.2.2.1 x hm).2)))) B e18_24 (⟨rfl, rfl, rfl⟩)
theorem con_checkFromIndexSize_7 (hw : Hw a0 Z) (G : Ow.Glo Z cz sf) (GS : GlS Z) {iof : Value} (GI : Sta Z Z.heap "jdk/internal/util/Preconditions" "IOOBE_FORMATTER" "Ljava/util/function/BiFunction;" iof ∧ iof.isRef = true) {px0 : Int32} {px1 : Int32} {px2 : Int32} {pv0 : Value} {h0 : Heap} (O0 : Old Z n0 h0) (hk0 : ¬ (((px2 ||| px0) ||| px1) < (0 : Int32))) (hk1 : ¬ ((px2 - px0) < px1)) (hv_pv0 : pv0.isRef = true) :
    Ow.Con l Z EL1 n0 my20 jdk_41_method_13_code 4 (Option.some Jvm.ClassFile.FieldType.int) [] ({ frames := 0, cells := 0, slots := 0, locals := 0 } : Room) #[(.int px0), (.int px1), (.int px2), pv0] [] h0 (fun v h S' => (v = some (.int px0) ∧ h = h0 ∧ S' = [])) := by
 rcases ref_cases hv_pv0 with rfl | ⟨sa_pv0, rfl⟩
 ·refine Ow.Con.enter (Ls := #[vI px0, vI px1, vI px2, .val .null]) (plainFor_of_name pn3) O0 (hEW hw) (hSA hw) ?_
  intro p e s m below meth c B
  have z0 := Ow.old_le O0
  refine Ow.iloadN (pc' := 1) B e22_0 (Ow.iloadN (pc' := 2) B e22_1 ?_)
  refine Ow.ior (pc' := 3) (z := (px2 ||| px0)) B e22_2 ?_
  refine Ow.iloadN (pc' := 4) B e22_3 ?_
  refine Ow.ior (pc' := 5) (z := ((px2 ||| px0) ||| px1)) B e22_4 ?_
  refine Ow.ifF (pc' := 8) B e22_5 (flt (hk0)).1 ?_
  refine Ow.iloadN (pc' := 9) B e22_8 (Ow.iloadN (pc' := 10) B e22_9 (Ow.iloadN (pc' := 11) B e22_10 ?_))
  refine Ow.isub (pc' := 12) (z := (px2 - px0)) B e22_11 ?_
  refine Ow.icmpT (pc' := 23) B e22_12 (flt (hk1)).2.2.2 ?_
  refine Ow.iloadN (pc' := 24) B e22_23 ?_
  exact Ow.retI (S' := []) (t := .int) B e22_24 (⟨rfl, rfl, rfl⟩)
 ·refine Ow.Con.enter (Ls := #[vI px0, vI px1, vI px2, vR sa_pv0]) (plainFor_of_name pn3) O0 (hEW hw) (hSA hw) ?_
  intro p e s m below meth c B
  have z0 := Ow.old_le O0
  refine Ow.iloadN (pc' := 1) B e22_0 (Ow.iloadN (pc' := 2) B e22_1 ?_)
  refine Ow.ior (pc' := 3) (z := (px2 ||| px0)) B e22_2 ?_
  refine Ow.iloadN (pc' := 4) B e22_3 ?_
  refine Ow.ior (pc' := 5) (z := ((px2 ||| px0) ||| px1)) B e22_4 ?_
  refine Ow.ifF (pc' := 8) B e22_5 (flt (hk0)).1 ?_
  refine Ow.iloadN (pc' := 9) B e22_8 (Ow.iloadN (pc' := 10) B e22_9 (Ow.iloadN (pc' := 11) B e22_10 ?_))
  refine Ow.isub (pc' := 12) (z := (px2 - px0)) B e22_11 ?_
  refine Ow.icmpT (pc' := 23) B e22_12 (flt (hk1)).2.2.2 ?_
  refine Ow.iloadN (pc' := 24) B e22_23 ?_
  exact Ow.retI (S' := []) (t := .int) B e22_24 (⟨rfl, rfl, rfl⟩)
theorem con_checkBoundsOffCount_8 (hw : Hw a0 Z) (G : Ow.Glo Z cz sf) (GS : GlS Z) {iof : Value} (GI : Sta Z Z.heap "jdk/internal/util/Preconditions" "IOOBE_FORMATTER" "Ljava/util/function/BiFunction;" iof ∧ iof.isRef = true) {px0 : Int32} {px1 : Int32} {px2 : Int32} {h0 : Heap} (O0 : Old Z n0 h0) (hk0 : ¬ (((px2 ||| px0) ||| px1) < (0 : Int32))) (hk1 : ¬ ((px2 - px0) < px1)) :
    Ow.Con l Z EL1 n0 my21 jdk_42_method_157_code 3 (Option.some Jvm.ClassFile.FieldType.int) [] ({ frames := 1, cells := 0, slots := 0, locals := 15 } : Room) #[(.int px0), (.int px1), (.int px2)] [] h0 (fun v h S' => (v = some (.int px0) ∧ h = h0 ∧ S' = [])) := by
 refine Ow.Con.enter (Ls := #[vI px0, vI px1, vI px2]) (plainFor_of_name pn1) O0 (hEW hw) (hSA hw) ?_
 intro p e s m below meth c B
 have z0 := Ow.old_le O0
 refine Ow.iloadN (pc' := 1) B e21_0 (Ow.iloadN (pc' := 2) B e21_1 (Ow.iloadN (pc' := 3) B e21_2 ?_))
 refine Ow.getstatic (pc' := 6) B e21_3 (w204 hw) Via.refl G.2.2.1 ?_
 refine Ow.Go.old (fun o1 => ?_)
 refine Ow.callStatic (pc' := 9) (W := 0) (k' := 0) (n' := 0) (argsL := [(.int px0), (.int px1), (.int px2), sf]) (rest := []) B e21_6 (w279 hw) (w280 hw) (w118 hw) (w281 hw) (con_checkFromIndexSize_7 hw G GS GI (px0 := px0) (px1 := px1) (px2 := px2) (pv0 := sf) o1 (hk0) (hk1) (G.2.2.2)) pd14 ?_
 intro vq2 h3 S4 q2 zh3
 obtain ⟨rfl, rfl, rfl⟩ := q2
 refine Ow.Go.nr (S' := []) (st' := [(.int px0)]) ?_
 exact Ow.retI (S' := []) (t := .int) B e21_9 (⟨rfl, rfl, rfl⟩)
theorem gUo2 (hw : Hw a0 Z) (G : Ow.Glo Z cz sf) (GS : GlS Z) {iof : Value} (GI : Sta Z Z.heap "jdk/internal/util/Preconditions" "IOOBE_FORMATTER" "Ljava/util/function/BiFunction;" iof ∧ iof.isRef = true) {h0 : Heap} (O0 : Old Z n0 h0) {t i n N : Nat} {kt : ClassId} {vs : List Value} (D : Arv Z h0 t kt .byte (Int32.ofNat (2 * N)) vs (.int 0)) (hin : i + n ≤ N) (hN : N ≤ 64) :
    Ow.Con l Z EL1 n0 my22 jdk_52_method_94_code 3 (Option.none : Option Jvm.ClassFile.FieldType) [] ({ frames := 2, cells := 0, slots := 0, locals := 29 } : Room) #[(.int (Int32.ofNat i)), (.int (Int32.ofNat n)), (.ref t)] [] h0 (fun v h S' => v = none ∧ h = h0 ∧ S' = []) := by
 refine Ow.Con.enter (Ls := #[vI (Int32.ofNat i), vI (Int32.ofNat n), vR t]) (plainFor_of_name pn0) O0 (hEW hw) (hSA hw) ?_
 intro p e s m below meth c B
 have z0 := Ow.old_le O0
 refine Ow.iloadN (pc' := 1) B e20_0 (Ow.iloadN (pc' := 2) B e20_1 (Ow.aloadN (pc' := 3) B e20_2 ?_))
 refine Ow.Go.old (fun o1 => ?_)
 refine Ow.callStatic (pc' := 6) (W := 2) (k' := 0) (n' := 0) (argsL := [(.ref t)]) (rest := [(.int (Int32.ofNat n)), (.int (Int32.ofNat i))]) B e20_3 (w273 hw) (w274 hw) (w72 hw) (w275 hw) (gUln hw G GS GI (n := N) o1 D hN) pd11 ?_
 intro vq2 h3 S4 q2 zh3
 obtain ⟨rfl, rfl, rfl⟩ := q2
 refine Ow.Go.nr (S' := []) (st' := [(.int (Int32.ofNat N)), (.int (Int32.ofNat n)), (.int (Int32.ofNat i))]) ?_
 refine Ow.Go.old (fun o5 => ?_)
 refine Ow.callStatic (pc' := 9) (W := 0) (k' := 0) (n' := 0) (argsL := [(.int (Int32.ofNat i)), (.int (Int32.ofNat n)), (.int (Int32.ofNat N))]) (rest := []) B e20_6 (w276 hw) (w277 hw) (w6 hw) (w278 hw) (con_checkBoundsOffCount_8 hw G GS GI (px0 := (Int32.ofNat i)) (px1 := (Int32.ofNat n)) (px2 := (Int32.ofNat N)) o5 ((Ow.orNN (Ow.orNN Ow.nn Ow.nn) Ow.nn)) ((by rw [Ow.nsub (by omega)]; exact Ow.nlF (by omega)))) pd15 ?_
 intro vq6 h7 S8 q6 zh7
 obtain ⟨rfl, rfl, rfl⟩ := q6
 refine Ow.Go.nr (S' := []) (st' := [(.int (Int32.ofNat i))]) ?_
 refine Ow.pop (pc' := 10) B e20_9 ?_
 exact Ow.retV (S' := []) B e20_10 (⟨rfl, rfl, rfl⟩)
theorem con_checkFromToIndex_9 (hw : Hw a0 Z) (G : Ow.Glo Z cz sf) (GS : GlS Z) {iof : Value} (GI : Sta Z Z.heap "jdk/internal/util/Preconditions" "IOOBE_FORMATTER" "Ljava/util/function/BiFunction;" iof ∧ iof.isRef = true) {px0 : Int32} {px1 : Int32} {px2 : Int32} {pv0 : Value} {h0 : Heap} (O0 : Old Z n0 h0) (hk0 : ¬ (px0 < (0 : Int32))) (hk1 : ¬ (px1 < px0)) (hk2 : ¬ (px2 < px1)) (hv_pv0 : pv0.isRef = true) :
    Ow.Con l Z EL1 n0 my23 jdk_41_method_12_code 4 (Option.some Jvm.ClassFile.FieldType.int) [] ({ frames := 0, cells := 0, slots := 0, locals := 0 } : Room) #[(.int px0), (.int px1), (.int px2), pv0] [] h0 (fun v h S' => (v = some (.int px0) ∧ h = h0 ∧ S' = [])) := by
 rcases ref_cases hv_pv0 with rfl | ⟨sa_pv0, rfl⟩
 ·refine Ow.Con.enter (Ls := #[vI px0, vI px1, vI px2, .val .null]) (plainFor_of_name pn3) O0 (hEW hw) (hSA hw) ?_
  intro p e s m below meth c B
  have z0 := Ow.old_le O0
  refine Ow.iloadN (pc' := 1) B e25_0 ?_
  refine Ow.ifF (pc' := 4) B e25_1 (flt (hk0)).1 ?_
  refine Ow.iloadN (pc' := 5) B e25_4 (Ow.iloadN (pc' := 6) B e25_5 ?_)
  refine Ow.icmpF (pc' := 9) B e25_6 (flt (hk1)).2.2.1 ?_
  refine Ow.iloadN (pc' := 10) B e25_9 (Ow.iloadN (pc' := 11) B e25_10 ?_)
  refine Ow.icmpT (pc' := 22) B e25_11 (flt (hk2)).2.2.2 ?_
  refine Ow.iloadN (pc' := 23) B e25_22 ?_
  exact Ow.retI (S' := []) (t := .int) B e25_23 (⟨rfl, rfl, rfl⟩)
 ·refine Ow.Con.enter (Ls := #[vI px0, vI px1, vI px2, vR sa_pv0]) (plainFor_of_name pn3) O0 (hEW hw) (hSA hw) ?_
  intro p e s m below meth c B
  have z0 := Ow.old_le O0
  refine Ow.iloadN (pc' := 1) B e25_0 ?_
  refine Ow.ifF (pc' := 4) B e25_1 (flt (hk0)).1 ?_
  refine Ow.iloadN (pc' := 5) B e25_4 (Ow.iloadN (pc' := 6) B e25_5 ?_)
  refine Ow.icmpF (pc' := 9) B e25_6 (flt (hk1)).2.2.1 ?_
  refine Ow.iloadN (pc' := 10) B e25_9 (Ow.iloadN (pc' := 11) B e25_10 ?_)
  refine Ow.icmpT (pc' := 22) B e25_11 (flt (hk2)).2.2.2 ?_
  refine Ow.iloadN (pc' := 23) B e25_22 ?_
  exact Ow.retI (S' := []) (t := .int) B e25_23 (⟨rfl, rfl, rfl⟩)
theorem con_checkBoundsBeginEnd_10 (hw : Hw a0 Z) (G : Ow.Glo Z cz sf) (GS : GlS Z) {iof : Value} (GI : Sta Z Z.heap "jdk/internal/util/Preconditions" "IOOBE_FORMATTER" "Ljava/util/function/BiFunction;" iof ∧ iof.isRef = true) {px0 : Int32} {px1 : Int32} {px2 : Int32} {h0 : Heap} (O0 : Old Z n0 h0) (hk0 : ¬ (px0 < (0 : Int32))) (hk1 : ¬ (px1 < px0)) (hk2 : ¬ (px2 < px1)) :
    Ow.Con l Z EL1 n0 my24 jdk_42_method_158_code 3 (Option.none : Option Jvm.ClassFile.FieldType) [] ({ frames := 1, cells := 0, slots := 0, locals := 15 } : Room) #[(.int px0), (.int px1), (.int px2)] [] h0 (fun v h S' => (v = none ∧ h = h0 ∧ S' = [])) := by
 refine Ow.Con.enter (Ls := #[vI px0, vI px1, vI px2]) (plainFor_of_name pn1) O0 (hEW hw) (hSA hw) ?_
 intro p e s m below meth c B
 have z0 := Ow.old_le O0
 refine Ow.iloadN (pc' := 1) B e24_0 (Ow.iloadN (pc' := 2) B e24_1 (Ow.iloadN (pc' := 3) B e24_2 ?_))
 refine Ow.getstatic (pc' := 6) B e24_3 (w204 hw) Via.refl G.2.2.1 ?_
 refine Ow.Go.old (fun o1 => ?_)
 refine Ow.callStatic (pc' := 9) (W := 0) (k' := 0) (n' := 0) (argsL := [(.int px0), (.int px1), (.int px2), sf]) (rest := []) B e24_6 (w297 hw) (w121 hw) (w118 hw) (w122 hw) (con_checkFromToIndex_9 hw G GS GI (px0 := px0) (px1 := px1) (px2 := px2) (pv0 := sf) o1 (hk0) (hk1) (hk2) (G.2.2.2)) pd14 ?_
 intro vq2 h3 S4 q2 zh3
 obtain ⟨rfl, rfl, rfl⟩ := q2
 refine Ow.Go.nr (S' := []) (st' := [(.int px0)]) ?_
 refine Ow.pop (pc' := 10) B e24_9 ?_
 exact Ow.retV (S' := []) B e24_10 (⟨rfl, rfl, rfl⟩)
theorem gCbe (hw : Hw a0 Z) (G : Ow.Glo Z cz sf) (GS : GlS Z) {iof : Value} (GI : Sta Z Z.heap "jdk/internal/util/Preconditions" "IOOBE_FORMATTER" "Ljava/util/function/BiFunction;" iof ∧ iof.isRef = true) {h0 : Heap} (O0 : Old Z n0 h0) {t i e' N : Nat} {kt : ClassId} {vs : List Value} (D : Arv Z h0 t kt .byte (Int32.ofNat (2 * N)) vs (.int 0)) (hi : i ≤ e') (he : e' ≤ N) (hN : N ≤ 64) :
    Ow.Con l Z EL1 n0 my25 jdk_52_method_93_code 3 (Option.none : Option Jvm.ClassFile.FieldType) [] ({ frames := 2, cells := 0, slots := 0, locals := 29 } : Room) #[(.int (Int32.ofNat i)), (.int (Int32.ofNat e')), (.ref t)] [] h0 (fun v h S' => v = none ∧ h = h0 ∧ S' = []) := by
 refine Ow.Con.enter (Ls := #[vI (Int32.ofNat i), vI (Int32.ofNat e'), vR t]) (plainFor_of_name pn0) O0 (hEW hw) (hSA hw) ?_
 intro p e s m below meth c B
 have z0 := Ow.old_le O0
 refine Ow.iloadN (pc' := 1) B e23_0 (Ow.iloadN (pc' := 2) B e23_1 (Ow.aloadN (pc' := 3) B e23_2 ?_))
 refine Ow.Go.old (fun o1 => ?_)
 refine Ow.callStatic (pc' := 6) (W := 2) (k' := 0) (n' := 0) (argsL := [(.ref t)]) (rest := [(.int (Int32.ofNat e')), (.int (Int32.ofNat i))]) B e23_3 (w273 hw) (w274 hw) (w72 hw) (w275 hw) (gUln hw G GS GI (n := N) o1 D hN) pd11 ?_
 intro vq2 h3 S4 q2 zh3
 obtain ⟨rfl, rfl, rfl⟩ := q2
 refine Ow.Go.nr (S' := []) (st' := [(.int (Int32.ofNat N)), (.int (Int32.ofNat e')), (.int (Int32.ofNat i))]) ?_
 refine Ow.Go.old (fun o5 => ?_)
 refine Ow.callStatic (pc' := 9) (W := 0) (k' := 0) (n' := 0) (argsL := [(.int (Int32.ofNat i)), (.int (Int32.ofNat e')), (.int (Int32.ofNat N))]) (rest := []) B e23_6 (w294 hw) (w295 hw) (w6 hw) (w296 hw) (con_checkBoundsBeginEnd_10 hw G GS GI (px0 := (Int32.ofNat i)) (px1 := (Int32.ofNat e')) (px2 := (Int32.ofNat N)) o5 (Ow.nn) ((Ow.nlF (by omega))) ((Ow.nlF (by omega)))) pd16 ?_
 intro vq6 h7 S8 q6 zh7
 obtain ⟨rfl, rfl, rfl⟩ := q6
 refine Ow.Go.nr (S' := []) (st' := []) ?_
 exact Ow.retV (S' := []) B e23_9 (⟨rfl, rfl, rfl⟩)
theorem gUc2 (hw : Hw a0 Z) (G : Ow.Glo Z cz sf) (GS : GlS Z) {iof : Value} (GI : Sta Z Z.heap "jdk/internal/util/Preconditions" "IOOBE_FORMATTER" "Ljava/util/function/BiFunction;" iof ∧ iof.isRef = true) {h0 : Heap} (O0 : Old Z n0 h0) {t j N : Nat} {kt : ClassId} {vs : List Value} (D : Arv Z h0 t kt .byte (Int32.ofNat (2 * N)) vs (.int 0)) (hj : j < N) (hN : N ≤ 64) :
    Ow.Con l Z EL1 n0 my16 jdk_52_method_91_code 2 (Option.none : Option Jvm.ClassFile.FieldType) [] ({ frames := 2, cells := 0, slots := 0, locals := 27 } : Room) #[(.int (Int32.ofNat j)), (.ref t)] [] h0 (fun v h S' => v = none ∧ h = h0 ∧ S' = []) := by
 refine Ow.Con.enter (Ls := #[vI (Int32.ofNat j), vR t]) (plainFor_of_name pn0) O0 (hEW hw) (hSA hw) ?_
 intro p e s m below meth c B
 have z0 := Ow.old_le O0
 refine Ow.iloadN (pc' := 1) B e16_0 (Ow.aloadN (pc' := 2) B e16_1 ?_)
 refine Ow.Go.old (fun o1 => ?_)
 refine Ow.callStatic (pc' := 5) (W := 1) (k' := 0) (n' := 0) (argsL := [(.ref t)]) (rest := [(.int (Int32.ofNat j))]) B e16_2 (w273 hw) (w274 hw) (w72 hw) (w275 hw) (gUln hw G GS GI (n := N) o1 D hN) pd11 ?_
 intro vq2 h3 S4 q2 zh3
 obtain ⟨rfl, rfl, rfl⟩ := q2
 refine Ow.Go.nr (S' := []) (st' := [(.int (Int32.ofNat N)), (.int (Int32.ofNat j))]) ?_
 refine Ow.Go.old (fun o5 => ?_)
 refine Ow.callStatic (pc' := 8) (W := 0) (k' := 0) (n' := 0) (argsL := [(.int (Int32.ofNat j)), (.int (Int32.ofNat N))]) (rest := []) B e16_5 (w309 hw) (w202 hw) (w6 hw) (w203 hw) (con_checkIndex_4 hw G GS GI (px0 := (Int32.ofNat j)) (px1 := (Int32.ofNat N)) o5 (Ow.nn) ((Ow.nlT hj))) pd10 ?_
 intro vq6 h7 S8 q6 zh7
 obtain ⟨rfl, rfl, rfl⟩ := q6
 refine Ow.Go.nr (S' := []) (st' := []) ?_
 exact Ow.retV (S' := []) B e16_8 (⟨rfl, rfl, rfl⟩)
theorem gInf (hw : Hw a0 Z) (G : Ow.Glo Z cz sf) (GS : GlS Z) {iof : Value} (GI : Sta Z Z.heap "jdk/internal/util/Preconditions" "IOOBE_FORMATTER" "Ljava/util/function/BiFunction;" iof ∧ iof.isRef = true) {h0 : Heap} (O0 : Old Z n0 h0) {sa d M N : Nat} {ks kd : ClassId} {ss ds : List Int32} (T : Arv Z h0 sa ks .byte (Int32.ofNat M) (Ow.LB ss) (.int 0)) (D : Arv Z h0 d kd .byte (Int32.ofNat (2 * N)) (Ow.UB ds) (.int 0)) (hR : Ow.Rng ss) (hL : Ow.Lat ss) (hd : n0 ≤ d) (hne : sa ≠ d) (hm' : ss.length ≤ M) (hM : M ≤ 64) (hs : ds.length + ss.length ≤ N) (hN : N ≤ 64) :
    Ow.Con l Z EL1 n0 my26 jdk_52_method_86_code 6 (Option.none : Option Jvm.ClassFile.FieldType) [] ({ frames := 3, cells := 0, slots := 0, locals := 43 } : Room) #[(.ref sa), (.int 0), (.ref d), (.int (Int32.ofNat ds.length)), (.int (Int32.ofNat ss.length))] [d] h0 (fun v h S' => v = none ∧ Keep h0 h [d] ∧ Arv Z h d kd .byte (Int32.ofNat (2 * N)) (Ow.UB (ds ++ ss)) (.int 0) ∧ S' = []) := by
 refine Ow.Con.enter (Ls := #[vR sa, vI 0, vR d, vI (Int32.ofNat ds.length), vI (Int32.ofNat ss.length), .unset]) (plainFor_of_name pn0) O0 (hEW hw) (hSA hw) ?_
 intro p e s m below meth c B
 have z0 := Ow.old_le O0
 have ld : (d : Nat) < h0.size := D.lt
 have ls : (sa : Nat) < h0.size := T.lt
 refine Ow.iloadN (pc' := 1) B e26_0 (Ow.iload (pc' := 3) B e26_1 (Ow.aloadN (pc' := 4) B e26_3 (Ow.Go.old fun o1 => ?_)))
 refine Ow.callStatic (pc' := 7) (W := 0) (k' := 0) (n' := 0) (argsL := [.int (Int32.ofNat ds.length), .int (Int32.ofNat ss.length), .ref d]) (rest := []) B e26_4 (w270 hw) (w271 hw) (w72 hw) (w272 hw) (gUo2 hw G GS GI (N := N) o1 D hs hN) pd17 ?_
 intro v h1 S1 ⟨e1, e2, e3⟩ zh1
 subst e1 e2 e3
 refine Ow.Go.norm (S' := [d]) (st' := []) (fun _ q => q) rfl ?_
 refine Ow.iconst (pc' := 8) (x := 0) B e26_7 ?_
 refine Ow.istore (pc' := 10) (Ls' := #[vR sa, vI (Int32.ofNat 0), vR d, vI (Int32.ofNat (ds.length + 0)), vI (Int32.ofNat ss.length), vI (Int32.ofNat 0)]) B e26_8 ?_
 refine Ow.Go.loop (fun q (x : Nat) h => x + q = ss.length ∧ Keep h1 h [d] ∧ Arv Z h d kd .byte (Int32.ofNat (2 * N)) ((Ow.UB (ds ++ ss)).take (2 * (ds.length + x))) (.int 0)) (fun x => #[vR sa, vI (Int32.ofNat x), vR d, vI (Int32.ofNat (ds.length + x)), vI (Int32.ofNat ss.length), vI (Int32.ofNat x)]) ?_ ss.length 0 ⟨by omega, Keep.refl _ _, by rw [Ow.UBp]; exact D⟩
 intro q j h ⟨hj, K, D1⟩ ih
 dsimp only at hj D1 ⊢
 have zK := K.1
 refine Ow.iload (pc' := 12) B e26_10 (Ow.iload (pc' := 14) B e26_12 ?_)
 by_cases c1 : j < ss.length
 ·obtain ⟨x, hx⟩ : ∃ x, ss[j]? = some x := ⟨_, List.getElem?_eq_getElem c1⟩
  have hm := List.mem_of_getElem? hx
  refine Ow.icmpF (pc' := 17) B e26_14 (tlt (Ow.nlT c1)).2.1 ?_
  refine Ow.aloadN (pc' := 18) B e26_17 (Ow.iloadN (pc' := 19) B e26_18 ?_)
  refine Ow.iinc (pc' := 22) (y := Int32.ofNat (ds.length + (j + 1))) (hy := (Ow.nS (ds.length + j)).symm) (Ls' := #[vR sa, vI (Int32.ofNat j), vR d, vI (Int32.ofNat (ds.length + (j + 1))), vI (Int32.ofNat ss.length), vI (Int32.ofNat j)]) B e26_19 ?_
  refine Ow.aloadN (pc' := 23) B e26_22 (Ow.iloadN (pc' := 24) B e26_23 ?_)
  refine Ow.iinc (pc' := 27) (y := Int32.ofNat (j + 1)) (hy := (Ow.nS j).symm) (Ls' := #[vR sa, vI (Int32.ofNat (j + 1)), vR d, vI (Int32.ofNat (ds.length + (j + 1))), vI (Int32.ofNat ss.length), vI (Int32.ofNat j)]) B e26_24 ?_
  refine Ow.baload (pc' := 28) (v := .int x.toInt8.toInt32) B e26_27 (T.keep K (Ow.ninS hne Ow.nin0)) ⟨Ow.nn, Ow.nlT (by omega)⟩ (by rw [Ow.nc]; exact Ow.gD (Ow.LBa hx)) ?_
  refine Ow.sipush (pc' := 31) (x := 255) B e26_28 ?_
  refine Ow.iand (pc' := 32) (z := x) (hz := Ow.b255 (hR x hm).1 (hL x hm)) B e26_31 (Ow.Go.old fun o2 => ?_)
  refine Ow.callStatic (pc' := 35) (W := 0) (k' := 0) (n' := 0) (argsL := [.ref d, .int (Int32.ofNat (ds.length + j)), .int x]) (rest := []) B e26_32 (w218 hw) (w219 hw) (w72 hw) (w220 hw) (gPut hw G GS GI (N := N) (cs := ds ++ ss) o2 D1 (Ow.apR hx) (by omega) (by first|omega|(simp;omega)|simp) hN) pd2 ?_
  intro v h2 S2 ⟨e1, K2, D2, e2⟩ zh2
  subst e1 e2
  refine Ow.Go.norm (S' := [d]) (st' := []) (fun _ q => q) rfl ?_
  refine Ow.iinc (pc' := 38) (y := Int32.ofNat (j + 1)) (hy := (Ow.nS j).symm) (Ls' := #[vR sa, vI (Int32.ofNat (j + 1)), vR d, vI (Int32.ofNat (ds.length + (j + 1))), vI (Int32.ofNat ss.length), vI (Int32.ofNat (j + 1))]) B e26_35 ?_
  refine Ow.goto (pc' := 10) B e26_38 ?_
  exact ih (q - 1) (j + 1) h2 (by omega) ⟨by omega, K.trans K2 (allS (Or.inl (by simp)) all0), D2⟩
 ·have e : j = ss.length := by omega
  refine Ow.icmpT (pc' := 41) B e26_14 (flt (Ow.nlF c1)).2.1 ?_
  rw [e, Ow.UBe rfl] at D1
  exact Ow.retV (S' := []) B e26_41 ⟨rfl, K, D1, rfl⟩
theorem gLin (hw : Hw a0 Z) (G : Ow.Glo Z cz sf) (GS : GlS Z) {iof : Value} (GI : Sta Z Z.heap "jdk/internal/util/Preconditions" "IOOBE_FORMATTER" "Ljava/util/function/BiFunction;" iof ∧ iof.isRef = true) {h0 : Heap} (O0 : Old Z n0 h0) {sa d M N : Nat} {ks kd : ClassId} {ss ds : List Int32} (T : Arv Z h0 sa ks .byte (Int32.ofNat M) (Ow.LB ss) (.int 0)) (D : Arv Z h0 d kd .byte (Int32.ofNat (2 * N)) (Ow.UB ds) (.int 0)) (hR : Ow.Rng ss) (hL : Ow.Lat ss) (hd : n0 ≤ d) (hne : sa ≠ d) (hm' : ss.length ≤ M) (hM : M ≤ 64) (hs : ds.length + ss.length ≤ N) (hN : N ≤ 64) :
    Ow.Con l Z EL1 n0 my27 jdk_43_method_50_code 5 (Option.none : Option Jvm.ClassFile.FieldType) [] ({ frames := 4, cells := 0, slots := 0, locals := 60 } : Room) #[(.ref sa), (.int 0), (.ref d), (.int (Int32.ofNat ds.length)), (.int (Int32.ofNat ss.length))] [d] h0 (fun v h S' => v = none ∧ Keep h0 h [d] ∧ Arv Z h d kd .byte (Int32.ofNat (2 * N)) (Ow.UB (ds ++ ss)) (.int 0) ∧ S' = []) := by
 refine Ow.Con.enter (Ls := #[vR sa, vI 0, vR d, vI (Int32.ofNat ds.length), vI (Int32.ofNat ss.length)]) (plainFor_of_name pn2) O0 (hEW hw) (hSA hw) ?_
 intro p e s m below meth c B
 have z0 := Ow.old_le O0
 have ld : (d : Nat) < h0.size := D.lt
 refine Ow.aloadN (pc' := 1) B e27_0 (Ow.iloadN (pc' := 2) B e27_1 (Ow.aloadN (pc' := 3) B e27_2 (Ow.iloadN (pc' := 4) B e27_3 (Ow.iload (pc' := 6) B e27_4 ?_))))
 refine Ow.Go.old (fun o1 => ?_)
 refine Ow.callStatic (pc' := 9) (W := 0) (k' := 0) (n' := 0) (argsL := [(.ref sa), (.int 0), (.ref d), (.int (Int32.ofNat ds.length)), (.int (Int32.ofNat ss.length))]) (rest := []) B e27_6 (w267 hw) (w268 hw) (w72 hw) (w269 hw) (gInf hw G GS GI o1 T D hR hL hd hne hm' hM hs hN) pd18 ?_
 intro vq2 h3 S4 q2 zh3
 obtain ⟨rfl, Kh3, f5, rfl⟩ := q2
 refine Ow.Go.nr (S' := [d]) (st' := []) ?_
 exact Ow.retV (S' := []) B e27_9 (⟨rfl, ((Keep.refl _ [d]).trans Kh3 (allS (Or.inl (by simp)) all0)), f5, rfl⟩)
theorem gPcs (hw : Hw a0 Z) (G : Ow.Glo Z cz sf) (GS : GlS Z) {iof : Value} (GI : Sta Z Z.heap "jdk/internal/util/Preconditions" "IOOBE_FORMATTER" "Ljava/util/function/BiFunction;" iof ∧ iof.isRef = true) {h0 : Heap} (O0 : Old Z n0 h0) {sa d N i e' : Nat} {ks kd : ClassId} {ss ds : List Int32} (T : Arv Z h0 sa ks .char (Int32.ofNat ss.length) (Ow.CA ss) (.int 0)) (D : Arv Z h0 d kd .byte (Int32.ofNat (2 * N)) (Ow.UB ds) (.int 0)) (hd : n0 ≤ d) (hne : sa ≠ d) (hi : i ≤ e') (he : e' ≤ ss.length) (hM : ss.length ≤ 64) (hs : ds.length + (e' - i) ≤ N) (hN : N ≤ 64) :
    Ow.Con l Z EL1 n0 my28 jdk_52_method_68_code 5 (Option.none : Option Jvm.ClassFile.FieldType) [] ({ frames := 1, cells := 0, slots := 0, locals := 14 } : Room) #[(.ref d), (.int (Int32.ofNat ds.length)), (.ref sa), (.int (Int32.ofNat i)), (.int (Int32.ofNat e'))] [d] h0 (fun v h S' => v = none ∧ Keep h0 h [d] ∧ Arv Z h d kd .byte (Int32.ofNat (2 * N)) (Ow.UB (ds ++ Ow.sl ss i (e' - i))) (.int 0) ∧ S' = []) := by
 refine Ow.Con.enter (Ls := #[vR d, vI (Int32.ofNat ds.length), vR sa, vI (Int32.ofNat i), vI (Int32.ofNat e')]) (plainFor_of_name pn0) O0 (hEW hw) (hSA hw) ?_
 intro p e s m below meth c B
 have z0 := Ow.old_le O0
 have ld : (d : Nat) < h0.size := D.lt
 have ls : (sa : Nat) < h0.size := T.lt
 have hln := Ow.sl_len (show i + (e' - i) ≤ ss.length by omega)
 refine Ow.Go.loop (fun q (x : Nat) h => x + q = e' - i ∧ Keep h0 h [d] ∧ Arv Z h d kd .byte (Int32.ofNat (2 * N)) ((Ow.UB (ds ++ Ow.sl ss i (e' - i))).take (2 * (ds.length + x))) (.int 0)) (fun x => #[vR d, vI (Int32.ofNat (ds.length + x)), vR sa, vI (Int32.ofNat (i + x)), vI (Int32.ofNat e')]) ?_ (e' - i) 0 ⟨by omega, Keep.refl _ _, by rw [Ow.UBp]; exact D⟩
 intro q j h ⟨hj, K, D1⟩ ih
 dsimp only at hj D1 ⊢
 have zK := K.1
 refine Ow.iloadN (pc' := 1) B e28_0 (Ow.iload (pc' := 3) B e28_1 ?_)
 by_cases c1 : i + j < e'
 ·obtain ⟨x, hx⟩ : ∃ x, (Ow.sl ss i (e' - i))[j]? = some x := ⟨_, List.getElem?_eq_getElem (by omega)⟩
  refine Ow.icmpF (pc' := 6) B e28_3 (tlt (Ow.nlT c1)).2.1 ?_
  refine Ow.aloadN (pc' := 7) B e28_6 (Ow.iloadN (pc' := 8) B e28_7 ?_)
  refine Ow.iinc (pc' := 11) (y := Int32.ofNat (ds.length + (j + 1))) (hy := (Ow.nS (ds.length + j)).symm) (Ls' := #[vR d, vI (Int32.ofNat (ds.length + (j + 1))), vR sa, vI (Int32.ofNat (i + j)), vI (Int32.ofNat e')]) B e28_8 ?_
  refine Ow.aloadN (pc' := 12) B e28_11 (Ow.iloadN (pc' := 13) B e28_12 ?_)
  refine Ow.iinc (pc' := 16) (y := Int32.ofNat (i + (j + 1))) (hy := (Ow.nS (i + j)).symm) (Ls' := #[vR d, vI (Int32.ofNat (ds.length + (j + 1))), vR sa, vI (Int32.ofNat (i + (j + 1))), vI (Int32.ofNat e')]) B e28_13 ?_
  refine Ow.caload (pc' := 17) (v := .int x) B e28_16 (T.keep K (Ow.ninS hne Ow.nin0)) ⟨Ow.nn, Ow.nlT (by omega)⟩ (by rw [Ow.nc]; exact Ow.gD (Ow.CAa (Ow.sl_at hx).2)) (Ow.Go.old fun o2 => ?_)
  refine Ow.callStatic (pc' := 20) (W := 0) (k' := 0) (n' := 0) (argsL := [.ref d, .int (Int32.ofNat (ds.length + j)), .int x]) (rest := []) B e28_17 (w218 hw) (w219 hw) (w72 hw) (w220 hw) (gPut hw G GS GI (N := N) (cs := ds ++ Ow.sl ss i (e' - i)) o2 D1 (Ow.apR hx) (by omega) (by rw [List.length_append, hln]; omega) hN) pd2 ?_
  intro v h2 S2 ⟨e1, K2, D2, e2⟩ zh2
  subst e1 e2
  refine Ow.Go.norm (S' := [d]) (st' := []) (fun _ q => q) rfl ?_
  refine Ow.goto (pc' := 0) B e28_20 ?_
  exact ih (q - 1) (j + 1) h2 (by omega) ⟨by omega, K.trans K2 (allS (Or.inl (by simp)) all0), D2⟩
 ·have e : j = e' - i := by omega
  refine Ow.icmpT (pc' := 23) B e28_3 (flt (Ow.nlF c1)).2.1 ?_
  rw [e, Ow.UBe hln.symm] at D1
  exact Ow.retV (S' := []) B e28_23 ⟨rfl, K, D1, rfl⟩
theorem gPcB (hw : Hw a0 Z) (G : Ow.Glo Z cz sf) (GS : GlS Z) {iof : Value} (GI : Sta Z Z.heap "jdk/internal/util/Preconditions" "IOOBE_FORMATTER" "Ljava/util/function/BiFunction;" iof ∧ iof.isRef = true) {h0 : Heap} (O0 : Old Z n0 h0) {sa d N i e' : Nat} {ks kd : ClassId} {ss ds : List Int32} (T : Arv Z h0 sa ks .char (Int32.ofNat ss.length) (Ow.CA ss) (.int 0)) (D : Arv Z h0 d kd .byte (Int32.ofNat (2 * N)) (Ow.UB ds) (.int 0)) (hd : n0 ≤ d) (hne : sa ≠ d) (hi : i ≤ e') (he : e' ≤ ss.length) (hM : ss.length ≤ 64) (hs : ds.length + (e' - i) ≤ N) (hN : N ≤ 64) :
    Ow.Con l Z EL1 n0 my29 jdk_52_method_72_code 5 (Option.none : Option Jvm.ClassFile.FieldType) [] ({ frames := 3, cells := 0, slots := 0, locals := 43 } : Room) #[(.ref d), (.int (Int32.ofNat ds.length)), (.ref sa), (.int (Int32.ofNat i)), (.int (Int32.ofNat e'))] [d] h0 (fun v h S' => v = none ∧ Keep h0 h [d] ∧ Arv Z h d kd .byte (Int32.ofNat (2 * N)) (Ow.UB (ds ++ Ow.sl ss i (e' - i))) (.int 0) ∧ S' = []) := by
 refine Ow.Con.enter (Ls := #[vR d, vI (Int32.ofNat ds.length), vR sa, vI (Int32.ofNat i), vI (Int32.ofNat e')]) (plainFor_of_name pn0) O0 (hEW hw) (hSA hw) ?_
 intro p e s m below meth c B
 have z0 := Ow.old_le O0
 have ld : (d : Nat) < h0.size := D.lt
 refine Ow.iloadN (pc' := 1) B e29_0 (Ow.iloadN (pc' := 2) B e29_1 (Ow.iload (pc' := 4) B e29_2 ?_))
 refine Ow.iadd (pc' := 5) (z := (Int32.ofNat (ds.length + e'))) (hz := (Ow.nadd _ _)) B e29_4 ?_
 refine Ow.iloadN (pc' := 6) B e29_5 ?_
 refine Ow.isub (pc' := 7) (z := (Int32.ofNat (ds.length + e' - i))) (hz := (Ow.nsub (by omega))) B e29_6 ?_
 refine Ow.aloadN (pc' := 8) B e29_7 ?_
 refine Ow.Go.old (fun o1 => ?_)
 refine Ow.callStatic (pc' := 11) (W := 0) (k' := 0) (n' := 0) (argsL := [(.int (Int32.ofNat ds.length)), (.int (Int32.ofNat (ds.length + e' - i))), (.ref d)]) (rest := []) B e29_8 (w291 hw) (w292 hw) (w72 hw) (w293 hw) (gCbe hw G GS GI (N := N) o1 D (by omega) (by omega) hN) pd17 ?_
 intro vq2 h3 S4 q2 zh3
 obtain ⟨rfl, rfl, rfl⟩ := q2
 refine Ow.Go.nr (S' := [d]) (st' := []) ?_
 refine Ow.aloadN (pc' := 12) B e29_11 (Ow.iloadN (pc' := 13) B e29_12 (Ow.aloadN (pc' := 14) B e29_13 (Ow.iloadN (pc' := 15) B e29_14 (Ow.iload (pc' := 17) B e29_15 ?_))))
 refine Ow.Go.old (fun o5 => ?_)
 refine Ow.callStatic (pc' := 20) (W := 0) (k' := 0) (n' := 0) (argsL := [(.ref d), (.int (Int32.ofNat ds.length)), (.ref sa), (.int (Int32.ofNat i)), (.int (Int32.ofNat e'))]) (rest := []) B e29_17 (w298 hw) (w299 hw) (w72 hw) (w300 hw) (gPcs hw G GS GI o5 T D hd hne hi he hM hs hN) pd19 ?_
 intro vq6 h7 S8 q6 zh7
 obtain ⟨rfl, Kh7, f9, rfl⟩ := q6
 refine Ow.Go.nr (S' := [d]) (st' := []) ?_
 exact Ow.retV (S' := []) B e29_20 (⟨rfl, ((Keep.refl _ [d]).trans Kh7 (allS (Or.inl (by simp)) all0)), f9, rfl⟩)
theorem gPcB' (hw : Hw a0 Z) (G : Ow.Glo Z cz sf) (GS : GlS Z) {iof : Value} (GI : Sta Z Z.heap "jdk/internal/util/Preconditions" "IOOBE_FORMATTER" "Ljava/util/function/BiFunction;" iof ∧ iof.isRef = true) {h0 : Heap} (O0 : Old Z n0 h0) {di : Nat} {sa d N i e' : Nat} {ks kd : ClassId} {ss ds : List Int32} (hdi : di = ds.length) (T : Arv Z h0 sa ks .char (Int32.ofNat ss.length) (Ow.CA ss) (.int 0)) (D : Arv Z h0 d kd .byte (Int32.ofNat (2 * N)) (Ow.UB ds) (.int 0)) (hd : n0 ≤ d) (hne : sa ≠ d) (hi : i ≤ e') (he : e' ≤ ss.length) (hM : ss.length ≤ 64) (hs : ds.length + (e' - i) ≤ N) (hN : N ≤ 64) :
    Ow.Con l Z EL1 n0 my29 jdk_52_method_72_code 5 (Option.none : Option Jvm.ClassFile.FieldType) [] ({ frames := 3, cells := 0, slots := 0, locals := 43 } : Room) #[(.ref d), (.int (Int32.ofNat di)), (.ref sa), (.int (Int32.ofNat i)), (.int (Int32.ofNat e'))] [d] h0 (fun v h S' => v = none ∧ Keep h0 h [d] ∧ Arv Z h d kd .byte (Int32.ofNat (2 * N)) (Ow.UB (ds ++ Ow.sl ss i (e' - i))) (.int 0) ∧ S' = []) := by
 subst hdi; exact gPcB hw G GS GI O0 T D hd hne hi he hM hs hN
theorem gPc1 (hw : Hw a0 Z) (G : Ow.Glo Z cz sf) (GS : GlS Z) {iof : Value} (GI : Sta Z Z.heap "jdk/internal/util/Preconditions" "IOOBE_FORMATTER" "Ljava/util/function/BiFunction;" iof ∧ iof.isRef = true) {h0 : Heap} (O0 : Old Z n0 h0) {d N : Nat} {kd : ClassId} {x : Int32} {ds : List Int32} (D : Arv Z h0 d kd .byte (Int32.ofNat (2 * N)) (Ow.UB ds) (.int 0)) (hd : n0 ≤ d) (hs : ds.length < N) (hN : N ≤ 64) :
    Ow.Con l Z EL1 n0 my30 jdk_52_method_71_code 3 (Option.none : Option Jvm.ClassFile.FieldType) [] ({ frames := 3, cells := 0, slots := 0, locals := 40 } : Room) #[(.ref d), (.int (Int32.ofNat ds.length)), (.int x)] [d] h0 (fun v h S' => v = none ∧ Keep h0 h [d] ∧ Arv Z h d kd .byte (Int32.ofNat (2 * N)) (Ow.UB (ds ++ [x])) (.int 0) ∧ S' = []) := by
 refine Ow.Con.enter (Ls := #[vR d, vI (Int32.ofNat ds.length), vI x]) (plainFor_of_name pn0) O0 (hEW hw) (hSA hw) ?_
 intro p e s m below meth c B
 have z0 := Ow.old_le O0
 have ld : (d : Nat) < h0.size := D.lt
 refine Ow.iloadN (pc' := 1) B e30_0 (Ow.aloadN (pc' := 2) B e30_1 ?_)
 refine Ow.Go.old (fun o1 => ?_)
 refine Ow.callStatic (pc' := 5) (W := 0) (k' := 0) (n' := 0) (argsL := [(.int (Int32.ofNat ds.length)), (.ref d)]) (rest := []) B e30_2 (w306 hw) (w307 hw) (w72 hw) (w308 hw) (gUc2 hw G GS GI (N := N) o1 D hs hN) pd12 ?_
 intro vq2 h3 S4 q2 zh3
 obtain ⟨rfl, rfl, rfl⟩ := q2
 refine Ow.Go.nr (S' := [d]) (st' := []) ?_
 refine Ow.aloadN (pc' := 6) B e30_5 (Ow.iloadN (pc' := 7) B e30_6 (Ow.iloadN (pc' := 8) B e30_7 ?_))
 refine Ow.Go.old (fun o5 => ?_)
 refine Ow.callStatic (pc' := 11) (W := 0) (k' := 0) (n' := 0) (argsL := [(.ref d), (.int (Int32.ofNat ds.length)), (.int x)]) (rest := []) B e30_8 (w218 hw) (w219 hw) (w72 hw) (w220 hw) (gPut hw G GS GI (N := N) (cs := ds ++ [x]) (j := ds.length) (x := x) o5 (by rw [Ow.UBq]; exact D) (by simp) hd (by first|omega|(simp;omega)|simp) hN) pd2 ?_
 intro vq6 h7 S8 q6 zh7
 obtain ⟨rfl, Kh7, f9, rfl⟩ := q6
 rw [Ow.UBe (ds := ds) (ss := [x]) (n := 1) rfl] at f9
 refine Ow.Go.nr (S' := [d]) (st' := []) ?_
 exact Ow.retV (S' := []) B e30_11 (⟨rfl, ((Keep.refl _ [d]).trans Kh7 (allS (Or.inl (by simp)) all0)), f9, rfl⟩)
theorem gEns (hw : Hw a0 Z) (G : Ow.Glo Z cz sf) (GS : GlS Z) {iof : Value} (GI : Sta Z Z.heap "jdk/internal/util/Preconditions" "IOOBE_FORMATTER" "Ljava/util/function/BiFunction;" iof ∧ iof.isRef = true) {h0 : Heap} (O0 : Old Z n0 h0) {b vb m' : Nat} {kv : ClassId} {cs : List Int32} (F : Sbd Z h0 b vb kv cs) (hm : m' ≤ 16) :
    Ow.Con l Z EL1 n0 my31 jdk_68_method_9_code 3 (Option.none : Option Jvm.ClassFile.FieldType) [] ({ frames := 0, cells := 0, slots := 0, locals := 0 } : Room) #[(.ref b), (.int (Int32.ofNat m'))] [] h0 (fun v h S' => v = none ∧ h = h0 ∧ S' = []) := by
 rcases F.2.2.2.2.2 with ⟨oc, oa, ol⟩ | ⟨oc, oa, ou⟩
 ·refine Ow.Con.enter (Ls := #[vR b, vI (Int32.ofNat m'), .unset]) (plainFor_of_name pn4) O0 (hEW hw) (hSA hw) ?_
  intro p e s m below meth c B
  have z0 := Ow.old_le O0
  refine Ow.aloadN (pc' := 1) B e31_0 ?_
  refine Ow.getfield (pc' := 4) B e31_1 (w103 hw) Via.refl F.2.1 ?_
  refine Ow.arrlen (pc' := 5) B e31_4 oa ?_
  refine Ow.aloadN (pc' := 6) B e31_5 ?_
  refine Ow.getfield (pc' := 9) B e31_6 (w105 hw) Via.refl oc ?_
  refine Ow.ishr (pc' := 10) (z := 16) B e31_9 ?_
  refine Ow.istoreN (pc' := 11) (Ls' := #[vR b, vI (Int32.ofNat m'), vI 16]) B e31_10 ?_
  refine Ow.iloadN (pc' := 12) B e31_11 (Ow.iloadN (pc' := 13) B e31_12 ?_)
  refine Ow.isub (pc' := 14) (z := ((Int32.ofNat m') - (16 : Int32))) B e31_13 ?_
  refine Ow.ifT (pc' := 38) B e31_14 (flt ((Ow.sub16 hm))).2.2.2 ?_
  exact Ow.retV (S' := []) B e31_38 (⟨rfl, rfl, rfl⟩)
 ·refine Ow.Con.enter (Ls := #[vR b, vI (Int32.ofNat m'), .unset]) (plainFor_of_name pn4) O0 (hEW hw) (hSA hw) ?_
  intro p e s m below meth c B
  have z0 := Ow.old_le O0
  refine Ow.aloadN (pc' := 1) B e31_0 ?_
  refine Ow.getfield (pc' := 4) B e31_1 (w103 hw) Via.refl F.2.1 ?_
  refine Ow.arrlen (pc' := 5) B e31_4 oa ?_
  refine Ow.aloadN (pc' := 6) B e31_5 ?_
  refine Ow.getfield (pc' := 9) B e31_6 (w105 hw) Via.refl oc ?_
  refine Ow.ishr (pc' := 10) (z := 16) B e31_9 ?_
  refine Ow.istoreN (pc' := 11) (Ls' := #[vR b, vI (Int32.ofNat m'), vI 16]) B e31_10 ?_
  refine Ow.iloadN (pc' := 12) B e31_11 (Ow.iloadN (pc' := 13) B e31_12 ?_)
  refine Ow.isub (pc' := 14) (z := ((Int32.ofNat m') - (16 : Int32))) B e31_13 ?_
  refine Ow.ifT (pc' := 38) B e31_14 (flt ((Ow.sub16 hm))).2.2.2 ?_
  exact Ow.retV (S' := []) B e31_38 (⟨rfl, rfl, rfl⟩)
theorem con_isLatin1_11 (hw : Hw a0 Z) (G : Ow.Glo Z cz sf) (GS : GlS Z) {iof : Value} (GI : Sta Z Z.heap "jdk/internal/util/Preconditions" "IOOBE_FORMATTER" "Ljava/util/function/BiFunction;" iof ∧ iof.isRef = true) {pa0 : Nat} {h0 : Heap} (O0 : Old Z n0 h0) (hf0 : Fld Z h0 pa0 "java/lang/AbstractStringBuilder" "coder" "B" (.int 0)) (hn0 : n0 ≤ pa0) :
    Ow.Con l Z EL1 n0 my32 jdk_68_method_68_code 1 (Option.some Jvm.ClassFile.FieldType.boolean) [] ({ frames := 0, cells := 0, slots := 0, locals := 0 } : Room) #[(.ref pa0)] [] h0 (fun v h S' => (v = some (.int 1) ∧ h = h0 ∧ S' = [])) := by
 refine Ow.Con.enter (Ls := #[vR pa0]) (plainFor_of_name pn4) O0 (hEW hw) (hSA hw) ?_
 intro p e s m below meth c B
 have z0 := Ow.old_le O0
 have lpa0 : (pa0 : Nat) < h0.size := hf0.lt
 refine Ow.getstatic (pc' := 3) B e33_0 (w102 hw) Via.refl G.1 ?_
 refine Ow.ifF (pc' := 6) B e33_3 (feq (G.2.1)).1 ?_
 refine Ow.aloadN (pc' := 7) B e33_6 ?_
 refine Ow.getfield (pc' := 10) B e33_7 (w105 hw) Via.refl hf0 ?_
 refine Ow.ifF (pc' := 13) B e33_10 (by decide) ?_
 refine Ow.iconst (pc' := 14) (x := 1) B e33_13 ?_
 refine Ow.goto (pc' := 18) B e33_14 ?_
 exact Ow.retI (S' := []) (t := .boolean) B e33_18 (⟨rfl, rfl, rfl⟩)
theorem gSbi (hw : Hw a0 Z) (G : Ow.Glo Z cz sf) (GS : GlS Z) {iof : Value} (GI : Sta Z Z.heap "jdk/internal/util/Preconditions" "IOOBE_FORMATTER" "Ljava/util/function/BiFunction;" iof ∧ iof.isRef = true) {h0 : Heap} (O0 : Old Z n0 h0) {b vb : Nat} {kv : ClassId} {cs : List Int32} (E : Exa Z h0 b "java/lang/StringBuilder") (V : Fld Z h0 b "java/lang/AbstractStringBuilder" "value" "[B" (.ref vb)) (Ml : Fld Z h0 b "java/lang/AbstractStringBuilder" "maybeLatin1" "Z" (.int 0)) (Ct : Fld Z h0 b "java/lang/AbstractStringBuilder" "count" "I" (.int (Int32.ofNat cs.length))) (oc : Fld Z h0 b "java/lang/AbstractStringBuilder" "coder" "B" (.int 0)) (oa : Arv Z h0 vb kv .byte 16 (Ow.LB cs) (.int 0)) (hR : Ow.Rng cs) (hL : Ow.Lat cs) (hc : cs.length ≤ 16) (hb : n0 ≤ b) :
    Ow.Con l Z EL1 n0 my33 jdk_68_method_11_code 2 (Option.none : Option Jvm.ClassFile.FieldType) [] ({ frames := 5, cells := 1, slots := 32, locals := 76 } : Room) #[(.ref b)] [] h0 (fun v h S' => ∃ r : Nat, ∃ kr : ClassId, v = none ∧ Keep h0 h [b] ∧ h0.size ≤ r ∧ Fld Z h b "java/lang/AbstractStringBuilder" "value" "[B" (.ref r) ∧ Fld Z h b "java/lang/AbstractStringBuilder" "maybeLatin1" "Z" (.int 0) ∧ Fld Z h b "java/lang/AbstractStringBuilder" "count" "I" (.int (Int32.ofNat cs.length)) ∧ Fld Z h b "java/lang/AbstractStringBuilder" "coder" "B" (.int 1) ∧ Arv Z h r kr .byte 32 (Ow.UB cs) (.int 0) ∧ S' = [r]) := by
 refine Ow.Con.enter (Ls := #[vR b, .unset]) (plainFor_of_name pn4) O0 (hEW hw) (hSA hw) ?_
 intro p e s m below meth c B
 have z0 := Ow.old_le O0
 have lb : (b : Nat) < h0.size := E.lt
 have lvb : (vb : Nat) < h0.size := oa.lt
 refine Ow.aloadN (pc' := 1) B e32_0 ?_
 refine Ow.Go.old (fun o1 => ?_)
 refine Ow.callVirtual (pc' := 4) (W := 0) (k' := 0) (n' := 0) (argsL := []) (rest := []) (K := "java/lang/StringBuilder") B e32_1 (w135 hw) (w136 hw) (w138 hw) (w138 hw) (w137 hw) (w99 hw) (w139 hw) E (con_isLatin1_11 hw G GS GI (pa0 := b) o1 oc (by omega)) pd13 ?_
 intro vq2 h3 S4 q2 zh3
 obtain ⟨rfl, rfl, rfl⟩ := q2
 refine Ow.Go.nr (S' := []) (st' := [(.int 1)]) ?_
 refine Ow.ifT (pc' := 8) B e32_4 (by decide) ?_
 refine Ow.aloadN (pc' := 9) B e32_8 ?_
 refine Ow.getfield (pc' := 12) B e32_9 (w103 hw) Via.refl V ?_
 refine Ow.arrlen (pc' := 13) B e32_12 oa ?_
 refine Ow.Go.old (fun o5 => ?_)
 refine Ow.callStatic (pc' := 16) (W := 0) (k' := 1) (n' := 32) (argsL := [(.int 16)]) (rest := []) B e32_13 (w263 hw) (w212 hw) (w72 hw) (w213 hw) (gNbf hw G GS GI (n := 16) o5 (by decide)) pd1 ?_
 intro vq6 h7 S8 q6 zh7
 obtain ⟨r, kr, rfl, Kh7, br, fr, rfl⟩ := q6
 have lr : (r : Nat) < h7.size := fr.lt
 refine Ow.Go.norm (S' := [r]) (st' := [(.ref r)]) (fun _ q => q) rfl ?_
 refine Ow.astoreN (pc' := 17) (Ls' := #[vR b, vR r]) B e32_16 ?_
 refine Ow.aloadN (pc' := 18) B e32_17 ?_
 have f9 := V.keep Kh7 Ow.nin0
 refine Ow.getfield (pc' := 21) B e32_18 (w103 hw) Via.refl f9 ?_
 refine Ow.iconst (pc' := 22) (x := 0) B e32_21 (Ow.aloadN (pc' := 23) B e32_22 (Ow.iconst (pc' := 24) (x := 0) B e32_23 (Ow.aloadN (pc' := 25) B e32_24 ?_)))
 have f10 := Ct.keep Kh7 Ow.nin0
 refine Ow.getfield (pc' := 28) B e32_25 (w123 hw) Via.refl f10 ?_
 have f11 := oa.keep Kh7 Ow.nin0
 refine Ow.Go.old (fun o12 => ?_)
 refine Ow.callStatic (pc' := 31) (W := 0) (k' := 1) (n' := 32) (argsL := [(.ref vb), (.int 0), (.ref r), (.int 0), (.int (Int32.ofNat cs.length))]) (rest := []) B e32_28 (w264 hw) (w265 hw) (w142 hw) (w266 hw) (gLin hw G GS GI (M := 16) (N := 16) (ss := cs) (ds := []) o12 f11 fr hR hL (by omega) (by omega) (by omega) (by decide) (by first|omega|(simp;omega)|simp) (by decide)) pd18 ?_
 intro vq13 h14 S15 q13 zh14
 obtain ⟨rfl, Kh14, fu, rfl⟩ := q13
 refine Ow.Go.nr (S' := [r]) (st' := []) ?_
 refine Ow.aloadN (pc' := 32) B e32_31 (Ow.aloadN (pc' := 33) B e32_32 ?_)
 have f16 := f9.keep Kh14 (Ow.ninS (by omega) Ow.nin0)
 have f17 := E.keep Kh7
 have f18 := f17.keep Kh14
 refine Ow.putfield (pc' := 36) (ty := (.array .byte)) B e32_33 (w103 hw) Via.refl f16 f18 (Or.inl (w104 hw)) (w90 hw) (Or.inr ⟨by decide, by decide⟩) ?_
 intro h19 Wh19
 have f20 := Ml.keep Kh7 Ow.nin0
 have f21 := f20.keep Kh14 (Ow.ninS (by omega) Ow.nin0)
 have f22 := f10.keep Kh14 (Ow.ninS (by omega) Ow.nin0)
 have f23 := oc.keep Kh7 Ow.nin0
 have f24 := f23.keep Kh14 (Ow.ninS (by omega) Ow.nin0)
 have Kh19 := Keep.of_wr Wh19
 have zh19 := Kh19.1
 have f25 : Fld Z h19 b "java/lang/AbstractStringBuilder" "value" "[B" (.ref r) := f16.same Wh19
 have f26 : Fld Z h19 b "java/lang/AbstractStringBuilder" "maybeLatin1" "Z" (.int 0) := f21.other Wh19 (Or.inr (slot_ne (a0 := a0) (C := "java/lang/StringBuilder") (t := .boolean) (t' := (.array .byte)) (Or.inl (w302 hw)) (Or.inl (w104 hw)) (by decide) (by decide) (by decide)))
 have f27 : Fld Z h19 b "java/lang/AbstractStringBuilder" "count" "I" (.int (Int32.ofNat cs.length)) := f22.other Wh19 (Or.inr (slot_ne (a0 := a0) (C := "java/lang/StringBuilder") (t := .int) (t' := (.array .byte)) (Or.inl (w124 hw)) (Or.inl (w104 hw)) (by decide) (by decide) (by decide)))
 have f28 : Fld Z h19 b "java/lang/AbstractStringBuilder" "coder" "B" (.int 0) := f24.other Wh19 (Or.inr (slot_ne (a0 := a0) (C := "java/lang/StringBuilder") (t := .byte) (t' := (.array .byte)) (Or.inl (w106 hw)) (Or.inl (w104 hw)) (by decide) (by decide) (by decide)))
 refine Ow.aloadN (pc' := 37) B e32_36 (Ow.iconst (pc' := 38) (x := 1) B e32_37 ?_)
 have f29 := f18.keep Kh19
 refine Ow.putfield (pc' := 41) (ty := .byte) B e32_38 (w105 hw) Via.refl f28 f29 (Or.inl (w106 hw)) (w90 hw) (Or.inr ⟨by decide, by decide⟩) ?_
 intro h30 Wh30
 have Kh30 := Keep.of_wr Wh30
 have zh30 := Kh30.1
 have f31 : Fld Z h30 b "java/lang/AbstractStringBuilder" "coder" "B" (.int 1) := f28.same Wh30
 have f32 : Fld Z h30 b "java/lang/AbstractStringBuilder" "value" "[B" (.ref r) := f25.other Wh30 (Or.inr (slot_ne (a0 := a0) (C := "java/lang/StringBuilder") (t := (.array .byte)) (t' := .byte) (Or.inl (w104 hw)) (Or.inl (w106 hw)) (by decide) (by decide) (by decide)))
 have f33 : Fld Z h30 b "java/lang/AbstractStringBuilder" "maybeLatin1" "Z" (.int 0) := f26.other Wh30 (Or.inr (slot_ne (a0 := a0) (C := "java/lang/StringBuilder") (t := .boolean) (t' := .byte) (Or.inl (w302 hw)) (Or.inl (w106 hw)) (by decide) (by decide) (by decide)))
 have f34 : Fld Z h30 b "java/lang/AbstractStringBuilder" "count" "I" (.int (Int32.ofNat cs.length)) := f27.other Wh30 (Or.inr (slot_ne (a0 := a0) (C := "java/lang/StringBuilder") (t := .int) (t' := .byte) (Or.inl (w124 hw)) (Or.inl (w106 hw)) (by decide) (by decide) (by decide)))
 have f35 := fu.keep Kh19 (Ow.ninS (by omega) Ow.nin0)
 have f36 := f35.keep Kh30 (Ow.ninS (by omega) Ow.nin0)
 exact Ow.retV (S' := [r]) B e32_41 (⟨r, kr, rfl, (((((Keep.refl _ [b]).trans Kh7 (fun _ q => nomatch q)).trans Kh14 (allS (Or.inr (by omega)) all0)).trans Kh19 (allS (Or.inl (by simp)) all0)).trans Kh30 (allS (Or.inl (by simp)) all0)), (by omega), f32, f33, f34, f31, f36, rfl⟩)
theorem con_canEncode_12 (hw : Hw a0 Z) (G : Ow.Glo Z cz sf) (GS : GlS Z) {iof : Value} (GI : Sta Z Z.heap "jdk/internal/util/Preconditions" "IOOBE_FORMATTER" "Ljava/util/function/BiFunction;" iof ∧ iof.isRef = true) {px0 : Int32} {h0 : Heap} (O0 : Old Z n0 h0) :
    Ow.Con l Z EL1 n0 my34 jdk_43_method_3_code 1 (Option.some Jvm.ClassFile.FieldType.boolean) [] ({ frames := 0, cells := 0, slots := 0, locals := 0 } : Room) #[(.int px0)] [] h0 (fun v h S' => (v = some (.int 0) ∧ h = h0 ∧ (255 : Int32) < px0 ∧ S' = []) ∨ (v = some (.int 1) ∧ h = h0 ∧ ¬ ((255 : Int32) < px0) ∧ S' = [])) := by
 refine Ow.Con.enter (Ls := #[vI px0]) (plainFor_of_name pn2) O0 (hEW hw) (hSA hw) ?_
 intro p e s m below meth c B
 have z0 := Ow.old_le O0
 refine Ow.iloadN (pc' := 1) B e35_0 (Ow.sipush (pc' := 4) (x := 255) B e35_1 ?_)
 by_cases c1 : (255 : Int32) < px0
 ·refine Ow.icmpT (pc' := 11) B e35_4 (tlt c1).2.2.1 ?_
  refine Ow.iconst (pc' := 12) (x := 0) B e35_11 ?_
  exact Ow.retI (S' := []) (t := .boolean) B e35_12 (Or.inl (⟨rfl, rfl, c1, rfl⟩))
 ·refine Ow.icmpF (pc' := 7) B e35_4 (flt c1).2.2.1 ?_
  refine Ow.iconst (pc' := 8) (x := 1) B e35_7 ?_
  refine Ow.goto (pc' := 12) B e35_8 ?_
  exact Ow.retI (S' := []) (t := .boolean) B e35_12 (Or.inr (⟨rfl, rfl, c1, rfl⟩))
theorem con_isLatin1_13 (hw : Hw a0 Z) (G : Ow.Glo Z cz sf) (GS : GlS Z) {iof : Value} (GI : Sta Z Z.heap "jdk/internal/util/Preconditions" "IOOBE_FORMATTER" "Ljava/util/function/BiFunction;" iof ∧ iof.isRef = true) {pa0 : Nat} {h0 : Heap} (O0 : Old Z n0 h0) (hf0 : Fld Z h0 pa0 "java/lang/AbstractStringBuilder" "coder" "B" (.int 1)) (hn0 : n0 ≤ pa0) :
    Ow.Con l Z EL1 n0 my32 jdk_68_method_68_code 1 (Option.some Jvm.ClassFile.FieldType.boolean) [] ({ frames := 0, cells := 0, slots := 0, locals := 0 } : Room) #[(.ref pa0)] [] h0 (fun v h S' => (v = some (.int 0) ∧ h = h0 ∧ S' = [])) := by
 refine Ow.Con.enter (Ls := #[vR pa0]) (plainFor_of_name pn4) O0 (hEW hw) (hSA hw) ?_
 intro p e s m below meth c B
 have z0 := Ow.old_le O0
 have lpa0 : (pa0 : Nat) < h0.size := hf0.lt
 refine Ow.getstatic (pc' := 3) B e33_0 (w102 hw) Via.refl G.1 ?_
 refine Ow.ifF (pc' := 6) B e33_3 (feq (G.2.1)).1 ?_
 refine Ow.aloadN (pc' := 7) B e33_6 ?_
 refine Ow.getfield (pc' := 10) B e33_7 (w105 hw) Via.refl hf0 ?_
 refine Ow.ifT (pc' := 17) B e33_10 (by decide) ?_
 refine Ow.iconst (pc' := 18) (x := 0) B e33_17 ?_
 exact Ow.retI (S' := []) (t := .boolean) B e33_18 (⟨rfl, rfl, rfl⟩)
theorem gApC (hw : Hw a0 Z) (G : Ow.Glo Z cz sf) (GS : GlS Z) {iof : Value} (GI : Sta Z Z.heap "jdk/internal/util/Preconditions" "IOOBE_FORMATTER" "Ljava/util/function/BiFunction;" iof ∧ iof.isRef = true) {h0 : Heap} (O0 : Old Z n0 h0) {b vb : Nat} {kv : ClassId} {cs : List Int32} (F : Sbd Z h0 b vb kv cs) (hb : n0 ≤ b) (hv : n0 ≤ vb) (hne : b ≠ vb) {x : Int32} (r0 : ¬ x < (0 : Int32)) (r1 : ¬ (65535 : Int32) < x) (hc : cs.length < 16) :
    Ow.Con l Z EL1 n0 my35 jdk_68_method_31_code 2 (Option.some (Jvm.ClassFile.FieldType.object "java/lang/AbstractStringBuilder")) [] ({ frames := 6, cells := 1, slots := 32, locals := 89 } : Room) #[(.ref b), (.int x)] [vb] h0 (fun v h S' => ∃ v' : Nat, ∃ kr : ClassId, v = some (.ref b) ∧ Keep h0 h [b, vb] ∧ (v' = vb ∨ h0.size ≤ v') ∧ Sbd Z h b v' kr (cs ++ [x]) ∧ S' = [v']) := by
 rcases F.2.2.2.2.2 with ⟨oc, oa, ol⟩ | ⟨oc, oa, ou⟩
 ·refine Ow.Con.enter (Ls := #[vR b, vI x]) (plainFor_of_name pn4) O0 (hEW hw) (hSA hw) ?_
  intro p e s m below meth c B
  have z0 := Ow.old_le O0
  have lb : (b : Nat) < h0.size := F.lt
  have lvb : (vb : Nat) < h0.size := F.ltt
  refine Ow.aloadN (pc' := 1) B e34_0 (Ow.aloadN (pc' := 2) B e34_1 ?_)
  refine Ow.getfield (pc' := 5) B e34_2 (w123 hw) Via.refl F.2.2.2.1 ?_
  refine Ow.iconst (pc' := 6) (x := 1) B e34_5 ?_
  refine Ow.iadd (pc' := 7) (z := (Int32.ofNat (cs.length + 1))) (hz := (Ow.nS _)) B e34_6 ?_
  refine Ow.Go.old (fun o1 => ?_)
  refine Ow.callPrivateS (pc' := 10) (W := 0) (k' := 0) (n' := 0) (argsL := [(.int (Int32.ofNat (cs.length + 1)))]) (rest := []) (K := "java/lang/StringBuilder") B e34_7 (w125 hw) (w126 hw) (w127 hw) (w128 hw) (w99 hw) (w129 hw) F.1 (gEns hw G GS GI (m' := (cs.length + 1)) o1 F (by omega)) pd20 ?_
  intro vq2 h3 S4 q2 zh3
  obtain ⟨rfl, rfl, rfl⟩ := q2
  refine Ow.Go.nr (S' := [vb]) (st' := []) ?_
  refine Ow.aloadN (pc' := 11) B e34_10 ?_
  refine Ow.Go.old (fun o5 => ?_)
  refine Ow.callVirtual (pc' := 14) (W := 0) (k' := 0) (n' := 0) (argsL := []) (rest := []) (K := "java/lang/StringBuilder") B e34_11 (w135 hw) (w136 hw) (w138 hw) (w138 hw) (w137 hw) (w99 hw) (w139 hw) F.1 (con_isLatin1_11 hw G GS GI (pa0 := b) o5 oc (by omega)) pd13 ?_
  intro vq6 h7 S8 q6 zh7
  obtain ⟨rfl, rfl, rfl⟩ := q6
  refine Ow.Go.nr (S' := [vb]) (st' := [(.int 1)]) ?_
  refine Ow.ifF (pc' := 17) B e34_14 (by decide) ?_
  refine Ow.iloadN (pc' := 18) B e34_17 ?_
  refine Ow.Go.old (fun o9 => ?_)
  refine Ow.callStatic (pc' := 21) (W := 0) (k' := 0) (n' := 0) (argsL := [(.int x)]) (rest := []) B e34_18 (w140 hw) (w141 hw) (w142 hw) (w143 hw) (con_canEncode_12 hw G GS GI (px0 := x) o9) pd21 ?_
  intro vq10 h11 S12 q10 zh11
  rcases q10 with q10 | q10
  ·obtain ⟨rfl, rfl, c13, rfl⟩ := q10
   refine Ow.Go.nr (S' := [vb]) (st' := [(.int 0)]) ?_
   refine Ow.ifT (pc' := 45) B e34_21 (by decide) ?_
   refine Ow.aloadN (pc' := 46) B e34_45 ?_
   refine Ow.Go.old (fun o14 => ?_)
   refine Ow.callVirtual (pc' := 49) (W := 0) (k' := 0) (n' := 0) (argsL := []) (rest := []) (K := "java/lang/StringBuilder") B e34_46 (w135 hw) (w136 hw) (w138 hw) (w138 hw) (w137 hw) (w99 hw) (w139 hw) F.1 (con_isLatin1_11 hw G GS GI (pa0 := b) o14 oc (by omega)) pd13 ?_
   intro vq15 h16 S17 q15 zh16
   obtain ⟨rfl, rfl, rfl⟩ := q15
   refine Ow.Go.nr (S' := [vb]) (st' := [(.int 1)]) ?_
   refine Ow.ifF (pc' := 52) B e34_49 (by decide) ?_
   refine Ow.aloadN (pc' := 53) B e34_52 ?_
   refine Ow.Go.old (fun o18 => ?_)
   refine Ow.callPrivateS (pc' := 56) (W := 0) (k' := 1) (n' := 32) (argsL := []) (rest := []) (K := "java/lang/StringBuilder") B e34_53 (w258 hw) (w259 hw) (w260 hw) (w261 hw) (w99 hw) (w262 hw) F.1 (gSbi hw G GS GI (cs := cs) o18 F.1 F.2.1 F.2.2.1 F.2.2.2.1 oc oa (F.2.2.2.2.1) (ol) (by first|omega|(simp;omega)|simp) (by omega)) pd22 ?_
   intro vq19 h20 S21 q19 zh20
   obtain ⟨r22, k23, rfl, Kh20, br22, f24, f25, f26, f27, f28, rfl⟩ := q19
   have lr22 : (r22 : Nat) < h20.size := f28.lt
   refine Ow.Go.norm (S' := [r22, vb]) (st' := []) (fun _ q => q) rfl ?_
   refine Ow.aloadN (pc' := 57) B e34_56 ?_
   refine Ow.getfield (pc' := 60) B e34_57 (w103 hw) Via.refl f24 ?_
   refine Ow.aloadN (pc' := 61) B e34_60 ?_
   refine Ow.dup (pc' := 62) B e34_61 ?_
   refine Ow.getfield (pc' := 65) B e34_62 (w123 hw) Via.refl f26 ?_
   refine Ow.dupX1 (pc' := 66) B e34_65 ?_
   refine Ow.iconst (pc' := 67) (x := 1) B e34_66 ?_
   refine Ow.iadd (pc' := 68) (z := (Int32.ofNat (cs.length + 1))) (hz := (Ow.nS _)) B e34_67 ?_
   have f29 := F.1.keep Kh20
   refine Ow.putfield (pc' := 71) (ty := .int) B e34_68 (w123 hw) Via.refl f26 f29 (Or.inl (w124 hw)) (w90 hw) (Or.inr ⟨by decide, by decide⟩) ?_
   intro h30 Wh30
   have Kh30 := Keep.of_wr Wh30
   have zh30 := Kh30.1
   have f31 : Fld Z h30 b "java/lang/AbstractStringBuilder" "count" "I" (.int (Int32.ofNat (cs.length + 1))) := f26.same Wh30
   have f32 : Fld Z h30 b "java/lang/AbstractStringBuilder" "value" "[B" (.ref r22) := f24.other Wh30 (Or.inr (slot_ne (a0 := a0) (C := "java/lang/StringBuilder") (t := (.array .byte)) (t' := .int) (Or.inl (w104 hw)) (Or.inl (w124 hw)) (by decide) (by decide) (by decide)))
   have f33 : Fld Z h30 b "java/lang/AbstractStringBuilder" "maybeLatin1" "Z" (.int 0) := f25.other Wh30 (Or.inr (slot_ne (a0 := a0) (C := "java/lang/StringBuilder") (t := .boolean) (t' := .int) (Or.inl (w302 hw)) (Or.inl (w124 hw)) (by decide) (by decide) (by decide)))
   have f34 : Fld Z h30 b "java/lang/AbstractStringBuilder" "coder" "B" (.int 1) := f27.other Wh30 (Or.inr (slot_ne (a0 := a0) (C := "java/lang/StringBuilder") (t := .byte) (t' := .int) (Or.inl (w106 hw)) (Or.inl (w124 hw)) (by decide) (by decide) (by decide)))
   refine Ow.iloadN (pc' := 72) B e34_71 ?_
   have f35 := f28.keep Kh30 (Ow.ninS (by omega) Ow.nin0)
   refine Ow.Go.old (fun o36 => ?_)
   refine Ow.callStatic (pc' := 75) (W := 0) (k' := 1) (n' := 32) (argsL := [(.ref r22), (.int (Int32.ofNat cs.length)), (.int x)]) (rest := []) B e34_72 (w324 hw) (w325 hw) (w72 hw) (w326 hw) (gPc1 hw G GS GI (N := 16) (ds := cs) (x := x) o36 f35 (by omega) (by omega) (by decide)) pd2 ?_
   intro vq37 h38 S39 q37 zh38
   obtain ⟨rfl, Kh38, f40, rfl⟩ := q37
   refine Ow.Go.nr (S' := [r22, vb]) (st' := []) ?_
   refine Ow.aloadN (pc' := 76) B e34_75 ?_
   have f41 := f32.keep Kh38 (Ow.ninS (by omega) Ow.nin0)
   have f42 := f33.keep Kh38 (Ow.ninS (by omega) Ow.nin0)
   have f43 := f31.keep Kh38 (Ow.ninS (by omega) Ow.nin0)
   have f44 := f34.keep Kh38 (Ow.ninS (by omega) Ow.nin0)
   have f45 := f29.keep Kh30
   have f46 := f45.keep Kh38
   exact Ow.retA (S' := [r22]) (t := (.object "java/lang/AbstractStringBuilder")) B e34_76 (⟨r22, k23, rfl, ((((Keep.refl _ [b, vb]).trans Kh20 (allS (Or.inl (by simp)) all0)).trans Kh30 (allS (Or.inl (by simp)) all0)).trans Kh38 (allS (Or.inr (by omega)) all0)), Or.inr (by omega), ⟨f46, f41, f42, (by rw [show (cs ++ [x]).length = cs.length + 1 from by simp]; exact f43), (Ow.Rng.app F.2.2.2.2.1 (Ow.allI ⟨r0, r1⟩ Ow.allI0)), Or.inr ⟨f44, f40, (Ow.hiR ⟨x, by simp, c13⟩)⟩⟩, rfl⟩)
  ·obtain ⟨rfl, rfl, c47, rfl⟩ := q10
   refine Ow.Go.nr (S' := [vb]) (st' := [(.int 1)]) ?_
   refine Ow.ifF (pc' := 24) B e34_21 (by decide) ?_
   refine Ow.aloadN (pc' := 25) B e34_24 ?_
   refine Ow.getfield (pc' := 28) B e34_25 (w103 hw) Via.refl F.2.1 ?_
   refine Ow.aloadN (pc' := 29) B e34_28 ?_
   refine Ow.dup (pc' := 30) B e34_29 ?_
   refine Ow.getfield (pc' := 33) B e34_30 (w123 hw) Via.refl F.2.2.2.1 ?_
   refine Ow.dupX1 (pc' := 34) B e34_33 ?_
   refine Ow.iconst (pc' := 35) (x := 1) B e34_34 ?_
   refine Ow.iadd (pc' := 36) (z := (Int32.ofNat (cs.length + 1))) (hz := (Ow.nS _)) B e34_35 ?_
   refine Ow.putfield (pc' := 39) (ty := .int) B e34_36 (w123 hw) Via.refl F.2.2.2.1 F.1 (Or.inl (w124 hw)) (w90 hw) (Or.inr ⟨by decide, by decide⟩) ?_
   intro h48 Wh48
   have Kh48 := Keep.of_wr Wh48
   have zh48 := Kh48.1
   have f49 : Fld Z h48 b "java/lang/AbstractStringBuilder" "count" "I" (.int (Int32.ofNat (cs.length + 1))) := F.2.2.2.1.same Wh48
   have f50 : Fld Z h48 b "java/lang/AbstractStringBuilder" "value" "[B" (.ref vb) := F.2.1.other Wh48 (Or.inr (slot_ne (a0 := a0) (C := "java/lang/StringBuilder") (t := (.array .byte)) (t' := .int) (Or.inl (w104 hw)) (Or.inl (w124 hw)) (by decide) (by decide) (by decide)))
   have f51 : Fld Z h48 b "java/lang/AbstractStringBuilder" "maybeLatin1" "Z" (.int 0) := F.2.2.1.other Wh48 (Or.inr (slot_ne (a0 := a0) (C := "java/lang/StringBuilder") (t := .boolean) (t' := .int) (Or.inl (w302 hw)) (Or.inl (w124 hw)) (by decide) (by decide) (by decide)))
   have f52 : Fld Z h48 b "java/lang/AbstractStringBuilder" "coder" "B" (.int 0) := oc.other Wh48 (Or.inr (slot_ne (a0 := a0) (C := "java/lang/StringBuilder") (t := .byte) (t' := .int) (Or.inl (w106 hw)) (Or.inl (w124 hw)) (by decide) (by decide) (by decide)))
   refine Ow.iloadN (pc' := 40) B e34_39 ?_
   refine Ow.i2b (pc' := 41) (z := x.toInt8.toInt32) B e34_40 ?_
   have f53 := oa.keep Kh48 (Ow.ninS (by omega) Ow.nin0)
   refine Ow.bastore (pc' := 42) (i := (cs).length) B e34_41 (f53.pad (Ow.pad1 _ _)) ⟨(by rw [show ((Int32.ofNat cs.length)) = Int32.ofNat (cs).length from by simp]; exact Ow.nn (by first|omega|(simp;omega)|simp)), (by rw [show ((Int32.ofNat cs.length)) = Int32.ofNat (cs).length from by simp]; exact Ow.nlT (n := 16) (by first|omega|(simp;omega)|simp))⟩ (by simp) ?_ (hlt := by simp) (hi := (by rw [show ((Int32.ofNat cs.length)) = Int32.ofNat (cs).length from by simp]; exact Ow.nc (by first|omega|(simp;omega)|simp)))
   intro h54 Kh54 V55
   have zh54 := Kh54.1
   rw [Ow.nar_b, Ow.LBs] at V55
   refine Ow.goto (pc' := 75) B e34_42 ?_
   refine Ow.aloadN (pc' := 76) B e34_75 ?_
   have f56 := f50.keep Kh54 (Ow.ninS (by omega) Ow.nin0)
   have f57 := f51.keep Kh54 (Ow.ninS (by omega) Ow.nin0)
   have f58 := f49.keep Kh54 (Ow.ninS (by omega) Ow.nin0)
   have f59 := f52.keep Kh54 (Ow.ninS (by omega) Ow.nin0)
   have f60 := F.1.keep Kh48
   have f61 := f60.keep Kh54
   exact Ow.retA (S' := [vb]) (t := (.object "java/lang/AbstractStringBuilder")) B e34_76 (⟨vb, kv, rfl, (((Keep.refl _ [b, vb]).trans Kh48 (allS (Or.inl (by simp)) all0)).trans Kh54 (allS (Or.inl (by simp)) all0)), Or.inl rfl, ⟨f61, f56, f57, (by rw [show (cs ++ [x]).length = cs.length + 1 from by simp]; exact f58), (Ow.Rng.app F.2.2.2.2.1 (Ow.allI ⟨r0, r1⟩ Ow.allI0)), Or.inl ⟨f59, V55, (Ow.Lat.app ol (Ow.allI (c47) Ow.allI0))⟩⟩, rfl⟩)
 ·refine Ow.Con.enter (Ls := #[vR b, vI x]) (plainFor_of_name pn4) O0 (hEW hw) (hSA hw) ?_
  intro p e s m below meth c B
  have z0 := Ow.old_le O0
  have lb : (b : Nat) < h0.size := F.lt
  have lvb : (vb : Nat) < h0.size := F.ltt
  refine Ow.aloadN (pc' := 1) B e34_0 (Ow.aloadN (pc' := 2) B e34_1 ?_)
  refine Ow.getfield (pc' := 5) B e34_2 (w123 hw) Via.refl F.2.2.2.1 ?_
  refine Ow.iconst (pc' := 6) (x := 1) B e34_5 ?_
  refine Ow.iadd (pc' := 7) (z := (Int32.ofNat (cs.length + 1))) (hz := (Ow.nS _)) B e34_6 ?_
  refine Ow.Go.old (fun o1 => ?_)
  refine Ow.callPrivateS (pc' := 10) (W := 0) (k' := 0) (n' := 0) (argsL := [(.int (Int32.ofNat (cs.length + 1)))]) (rest := []) (K := "java/lang/StringBuilder") B e34_7 (w125 hw) (w126 hw) (w127 hw) (w128 hw) (w99 hw) (w129 hw) F.1 (gEns hw G GS GI (m' := (cs.length + 1)) o1 F (by omega)) pd20 ?_
  intro vq2 h3 S4 q2 zh3
  obtain ⟨rfl, rfl, rfl⟩ := q2
  refine Ow.Go.nr (S' := [vb]) (st' := []) ?_
  refine Ow.aloadN (pc' := 11) B e34_10 ?_
  refine Ow.Go.old (fun o5 => ?_)
  refine Ow.callVirtual (pc' := 14) (W := 0) (k' := 0) (n' := 0) (argsL := []) (rest := []) (K := "java/lang/StringBuilder") B e34_11 (w135 hw) (w136 hw) (w138 hw) (w138 hw) (w137 hw) (w99 hw) (w139 hw) F.1 (con_isLatin1_13 hw G GS GI (pa0 := b) o5 oc (by omega)) pd13 ?_
  intro vq6 h7 S8 q6 zh7
  obtain ⟨rfl, rfl, rfl⟩ := q6
  refine Ow.Go.nr (S' := [vb]) (st' := [(.int 0)]) ?_
  refine Ow.ifT (pc' := 45) B e34_14 (by decide) ?_
  refine Ow.aloadN (pc' := 46) B e34_45 ?_
  refine Ow.Go.old (fun o9 => ?_)
  refine Ow.callVirtual (pc' := 49) (W := 0) (k' := 0) (n' := 0) (argsL := []) (rest := []) (K := "java/lang/StringBuilder") B e34_46 (w135 hw) (w136 hw) (w138 hw) (w138 hw) (w137 hw) (w99 hw) (w139 hw) F.1 (con_isLatin1_13 hw G GS GI (pa0 := b) o9 oc (by omega)) pd13 ?_
  intro vq10 h11 S12 q10 zh11
  obtain ⟨rfl, rfl, rfl⟩ := q10
  refine Ow.Go.nr (S' := [vb]) (st' := [(.int 0)]) ?_
  refine Ow.ifT (pc' := 56) B e34_49 (by decide) ?_
  refine Ow.aloadN (pc' := 57) B e34_56 ?_
  refine Ow.getfield (pc' := 60) B e34_57 (w103 hw) Via.refl F.2.1 ?_
  refine Ow.aloadN (pc' := 61) B e34_60 ?_
  refine Ow.dup (pc' := 62) B e34_61 ?_
  refine Ow.getfield (pc' := 65) B e34_62 (w123 hw) Via.refl F.2.2.2.1 ?_
  refine Ow.dupX1 (pc' := 66) B e34_65 ?_
  refine Ow.iconst (pc' := 67) (x := 1) B e34_66 ?_
  refine Ow.iadd (pc' := 68) (z := (Int32.ofNat (cs.length + 1))) (hz := (Ow.nS _)) B e34_67 ?_
  refine Ow.putfield (pc' := 71) (ty := .int) B e34_68 (w123 hw) Via.refl F.2.2.2.1 F.1 (Or.inl (w124 hw)) (w90 hw) (Or.inr ⟨by decide, by decide⟩) ?_
  intro h13 Wh13
  have Kh13 := Keep.of_wr Wh13
  have zh13 := Kh13.1
  have f14 : Fld Z h13 b "java/lang/AbstractStringBuilder" "count" "I" (.int (Int32.ofNat (cs.length + 1))) := F.2.2.2.1.same Wh13
  have f15 : Fld Z h13 b "java/lang/AbstractStringBuilder" "value" "[B" (.ref vb) := F.2.1.other Wh13 (Or.inr (slot_ne (a0 := a0) (C := "java/lang/StringBuilder") (t := (.array .byte)) (t' := .int) (Or.inl (w104 hw)) (Or.inl (w124 hw)) (by decide) (by decide) (by decide)))
  have f16 : Fld Z h13 b "java/lang/AbstractStringBuilder" "maybeLatin1" "Z" (.int 0) := F.2.2.1.other Wh13 (Or.inr (slot_ne (a0 := a0) (C := "java/lang/StringBuilder") (t := .boolean) (t' := .int) (Or.inl (w302 hw)) (Or.inl (w124 hw)) (by decide) (by decide) (by decide)))
  have f17 : Fld Z h13 b "java/lang/AbstractStringBuilder" "coder" "B" (.int 1) := oc.other Wh13 (Or.inr (slot_ne (a0 := a0) (C := "java/lang/StringBuilder") (t := .byte) (t' := .int) (Or.inl (w106 hw)) (Or.inl (w124 hw)) (by decide) (by decide) (by decide)))
  refine Ow.iloadN (pc' := 72) B e34_71 ?_
  have f18 := oa.keep Kh13 (Ow.ninS (by omega) Ow.nin0)
  refine Ow.Go.old (fun o19 => ?_)
  refine Ow.callStatic (pc' := 75) (W := 0) (k' := 0) (n' := 0) (argsL := [(.ref vb), (.int (Int32.ofNat cs.length)), (.int x)]) (rest := []) B e34_72 (w324 hw) (w325 hw) (w72 hw) (w326 hw) (gPc1 hw G GS GI (N := 16) (ds := cs) (x := x) o19 f18 (by omega) (by omega) (by decide)) pd2 ?_
  intro vq20 h21 S22 q20 zh21
  obtain ⟨rfl, Kh21, f23, rfl⟩ := q20
  refine Ow.Go.nr (S' := [vb]) (st' := []) ?_
  refine Ow.aloadN (pc' := 76) B e34_75 ?_
  have f24 := f15.keep Kh21 (Ow.ninS (by omega) Ow.nin0)
  have f25 := f16.keep Kh21 (Ow.ninS (by omega) Ow.nin0)
  have f26 := f14.keep Kh21 (Ow.ninS (by omega) Ow.nin0)
  have f27 := f17.keep Kh21 (Ow.ninS (by omega) Ow.nin0)
  have f28 := F.1.keep Kh13
  have f29 := f28.keep Kh21
  exact Ow.retA (S' := [vb]) (t := (.object "java/lang/AbstractStringBuilder")) B e34_76 (⟨vb, kv, rfl, (((Keep.refl _ [b, vb]).trans Kh13 (allS (Or.inl (by simp)) all0)).trans Kh21 (allS (Or.inl (by simp)) all0)), Or.inl rfl, ⟨f29, f24, f25, (by rw [show (cs ++ [x]).length = cs.length + 1 from by simp]; exact f26), (Ow.Rng.app F.2.2.2.2.1 (Ow.allI ⟨r0, r1⟩ Ow.allI0)), Or.inr ⟨f27, f23, (Ow.hiL ou)⟩⟩, rfl⟩)
theorem gAppC (hw : Hw a0 Z) (G : Ow.Glo Z cz sf) (GS : GlS Z) {iof : Value} (GI : Sta Z Z.heap "jdk/internal/util/Preconditions" "IOOBE_FORMATTER" "Ljava/util/function/BiFunction;" iof ∧ iof.isRef = true) {h0 : Heap} (O0 : Old Z n0 h0) {b vb : Nat} {kv : ClassId} {cs : List Int32} (F : Sbd Z h0 b vb kv cs) (hb : n0 ≤ b) (hv : n0 ≤ vb) (hne : b ≠ vb) {x : Int32} (r0 : ¬ x < (0 : Int32)) (r1 : ¬ (65535 : Int32) < x) (hc : cs.length < 16) :
    Ow.Con l Z EL1 n0 my36 jdk_67_method_14_code 2 (Option.some (Jvm.ClassFile.FieldType.object "java/lang/StringBuilder")) [] ({ frames := 7, cells := 1, slots := 32, locals := 102 } : Room) #[(.ref b), (.int x)] [vb] h0 (fun v h S' => ∃ v' : Nat, ∃ kr : ClassId, v = some (.ref b) ∧ Keep h0 h [b, vb] ∧ (v' = vb ∨ h0.size ≤ v') ∧ Sbd Z h b v' kr (cs ++ [x]) ∧ S' = [v']) := by
 refine Ow.Con.enter (Ls := #[vR b, vI x]) (plainFor_of_name pn5) O0 (hEW hw) (hSA hw) ?_
 intro p e s m below meth c B
 have z0 := Ow.old_le O0
 have lb : (b : Nat) < h0.size := F.lt
 have lvb : (vb : Nat) < h0.size := F.ltt
 refine Ow.aloadN (pc' := 1) B e36_0 (Ow.iloadN (pc' := 2) B e36_1 ?_)
 refine Ow.Go.old (fun o1 => ?_)
 refine Ow.callSuper (pc' := 5) (W := 0) (k' := 1) (n' := 32) (argsL := [(.int x)]) (rest := []) (K := "java/lang/StringBuilder") B e36_2 (w320 hw) (w321 hw) (w99 hw) (w323 hw) (w114 hw) (w128 hw) (F).1 (gApC hw G GS GI o1 F hb hv hne r0 r1 hc) pd23 ?_
 intro vq2 h3 S4 q2 zh3
 obtain ⟨t5, k6, rfl, Kh3, e8, f7, rfl⟩ := q2
 have lt5 : (t5 : Nat) < h3.size := f7.ltt
 refine Ow.Go.norm (S' := [t5, vb]) (st' := [(.ref b)]) (fun _ q => q) rfl ?_
 refine Ow.pop (pc' := 6) B e36_5 ?_
 refine Ow.aloadN (pc' := 7) B e36_6 ?_
 exact Ow.retA (S' := [t5]) (t := (.object "java/lang/StringBuilder")) B e36_7 (⟨t5, k6, rfl, ((Keep.refl _ [b, vb]).trans Kh3 (allS (Or.inl (by simp)) (allS (Or.inl (by simp)) all0))), (by omega), f7, rfl⟩)
theorem gAch00 (hw : Hw a0 Z) (G : Ow.Glo Z cz sf) (GS : GlS Z) {iof : Value} (GI : Sta Z Z.heap "jdk/internal/util/Preconditions" "IOOBE_FORMATTER" "Ljava/util/function/BiFunction;" iof ∧ iof.isRef = true) {h0 : Heap} (O0 : Old Z n0 h0) {b vb : Nat} {kv : ClassId} {cs : List Int32} (F : Sbd Z h0 b vb kv cs) (hb : n0 ≤ b) (hv : n0 ≤ vb) (hne : b ≠ vb) {a : Nat} {ka : ClassId} {x y : Int32} (A : Arv Z h0 a ka .char 2 [(.int x), (.int y)] (.int 0)) (rx : ¬ x < (0 : Int32) ∧ ¬ (65535 : Int32) < x) (ry : ¬ y < (0 : Int32) ∧ ¬ (65535 : Int32) < y) (ha1 : a ≠ b) (ha2 : a ≠ vb) (hc : cs.length + 2 ≤ 16) :
    Ow.Con l Z EL1 n0 my37 jdk_68_method_74_code 9 (Option.none : Option Jvm.ClassFile.FieldType) [] ({ frames := 4, cells := 0, slots := 0, locals := 59 } : Room) #[(.ref b), (.ref a), (.int 0), (.int 0)] [vb] h0 (fun v h S' => ∃ v' : Nat, ∃ kr : ClassId, v = none ∧ Keep h0 h [b, vb] ∧ (v' = vb ∨ h0.size ≤ v') ∧ Sbd Z h b v' kr (cs) ∧ S' = [v']) := by
 rcases F.2.2.2.2.2 with ⟨oc, oa, ol⟩ | ⟨oc, oa, ou⟩
 ·refine Ow.Con.enter (Ls := #[vR b, vR a, vI 0, vI 0, .unset, .unset, .unset, .unset, .unset]) (plainFor_of_name pn4) O0 (hEW hw) (hSA hw) ?_
  intro p e s m below meth c B
  have z0 := Ow.old_le O0
  have lb : (b : Nat) < h0.size := F.lt
  have lvb : (vb : Nat) < h0.size := F.ltt
  have laa : (a : Nat) < h0.size := A.lt
  refine Ow.aloadN (pc' := 1) B e37_0 ?_
  refine Ow.getfield (pc' := 4) B e37_1 (w123 hw) Via.refl F.2.2.2.1 ?_
  refine Ow.istore (pc' := 6) (Ls' := #[vR b, vR a, vI 0, vI 0, vI (Int32.ofNat cs.length), .unset, .unset, .unset, .unset]) B e37_4 ?_
  refine Ow.aloadN (pc' := 7) B e37_6 ?_
  refine Ow.Go.old (fun o1 => ?_)
  refine Ow.callVirtual (pc' := 10) (W := 0) (k' := 0) (n' := 0) (argsL := []) (rest := []) (K := "java/lang/StringBuilder") B e37_7 (w135 hw) (w136 hw) (w138 hw) (w138 hw) (w137 hw) (w99 hw) (w139 hw) F.1 (con_isLatin1_11 hw G GS GI (pa0 := b) o1 oc (by omega)) pd13 ?_
  intro vq2 h3 S4 q2 zh3
  obtain ⟨rfl, rfl, rfl⟩ := q2
  refine Ow.Go.nr (S' := [vb]) (st' := [(.int 1)]) ?_
  refine Ow.ifF (pc' := 13) B e37_10 (by decide) ?_
  refine Ow.aloadN (pc' := 14) B e37_13 ?_
  refine Ow.getfield (pc' := 17) B e37_14 (w103 hw) Via.refl F.2.1 ?_
  refine Ow.astore (pc' := 19) (Ls' := #[vR b, vR a, vI 0, vI 0, vI (Int32.ofNat cs.length), vR vb, .unset, .unset, .unset]) B e37_17 ?_
  refine Ow.iloadN (pc' := 20) B e37_19 ?_
  refine Ow.istore (pc' := 22) (Ls' := #[vR b, vR a, vI 0, vI 0, vI (Int32.ofNat cs.length), vR vb, vI 0, .unset, .unset]) B e37_20 ?_
  refine Ow.iload (pc' := 24) B e37_22 ?_
  refine Ow.istore (pc' := 26) (Ls' := #[vR b, vR a, vI 0, vI 0, vI (Int32.ofNat cs.length), vR vb, vI 0, vI (Int32.ofNat cs.length), .unset]) B e37_24 ?_
  refine Ow.iload (pc' := 28) B e37_26 (Ow.iloadN (pc' := 29) B e37_28 ?_)
  refine Ow.icmpT (pc' := 104) B e37_29 (by decide) ?_
  refine Ow.goto (pc' := 119) B e37_104 ?_
  refine Ow.aloadN (pc' := 120) B e37_119 (Ow.iload (pc' := 122) B e37_120 (Ow.iloadN (pc' := 123) B e37_122 ?_))
  refine Ow.iadd (pc' := 124) (z := ((Int32.ofNat cs.length) + (0 : Int32))) B e37_123 ?_
  refine Ow.iloadN (pc' := 125) B e37_124 ?_
  refine Ow.isub (pc' := 126) (z := (Int32.ofNat (cs.length + 0))) (hz := (Ow.cntL (a := cs.length) (e := 0) (i := 0) (by decide) (by omega))) B e37_125 ?_
  refine Ow.putfield (pc' := 129) (ty := .int) B e37_126 (w123 hw) Via.refl F.2.2.2.1 F.1 (Or.inl (w124 hw)) (w90 hw) (Or.inr ⟨by decide, by decide⟩) ?_
  intro h5 Wh5
  have Kh5 := Keep.of_wr Wh5
  have zh5 := Kh5.1
  have f6 : Fld Z h5 b "java/lang/AbstractStringBuilder" "count" "I" (.int (Int32.ofNat (cs.length + 0))) := F.2.2.2.1.same Wh5
  have f7 : Fld Z h5 b "java/lang/AbstractStringBuilder" "value" "[B" (.ref vb) := F.2.1.other Wh5 (Or.inr (slot_ne (a0 := a0) (C := "java/lang/StringBuilder") (t := (.array .byte)) (t' := .int) (Or.inl (w104 hw)) (Or.inl (w124 hw)) (by decide) (by decide) (by decide)))
  have f8 : Fld Z h5 b "java/lang/AbstractStringBuilder" "maybeLatin1" "Z" (.int 0) := F.2.2.1.other Wh5 (Or.inr (slot_ne (a0 := a0) (C := "java/lang/StringBuilder") (t := .boolean) (t' := .int) (Or.inl (w302 hw)) (Or.inl (w124 hw)) (by decide) (by decide) (by decide)))
  have f9 : Fld Z h5 b "java/lang/AbstractStringBuilder" "coder" "B" (.int 0) := oc.other Wh5 (Or.inr (slot_ne (a0 := a0) (C := "java/lang/StringBuilder") (t := .byte) (t' := .int) (Or.inl (w106 hw)) (Or.inl (w124 hw)) (by decide) (by decide) (by decide)))
  have f10 := oa.keep Kh5 (Ow.ninS (by omega) Ow.nin0)
  have f11 := F.1.keep Kh5
  exact Ow.retV (S' := [vb]) B e37_129 (⟨vb, kv, rfl, ((Keep.refl _ [b, vb]).trans Kh5 (allS (Or.inl (by simp)) all0)), Or.inl rfl, ⟨f11, f7, f8, f6, F.2.2.2.2.1, Or.inl ⟨f9, f10, ol⟩⟩, rfl⟩)
 ·refine Ow.Con.enter (Ls := #[vR b, vR a, vI 0, vI 0, .unset, .unset, .unset, .unset, .unset]) (plainFor_of_name pn4) O0 (hEW hw) (hSA hw) ?_
  intro p e s m below meth c B
  have z0 := Ow.old_le O0
  have lb : (b : Nat) < h0.size := F.lt
  have lvb : (vb : Nat) < h0.size := F.ltt
  have laa : (a : Nat) < h0.size := A.lt
  refine Ow.aloadN (pc' := 1) B e37_0 ?_
  refine Ow.getfield (pc' := 4) B e37_1 (w123 hw) Via.refl F.2.2.2.1 ?_
  refine Ow.istore (pc' := 6) (Ls' := #[vR b, vR a, vI 0, vI 0, vI (Int32.ofNat cs.length), .unset, .unset, .unset, .unset]) B e37_4 ?_
  refine Ow.aloadN (pc' := 7) B e37_6 ?_
  refine Ow.Go.old (fun o1 => ?_)
  refine Ow.callVirtual (pc' := 10) (W := 0) (k' := 0) (n' := 0) (argsL := []) (rest := []) (K := "java/lang/StringBuilder") B e37_7 (w135 hw) (w136 hw) (w138 hw) (w138 hw) (w137 hw) (w99 hw) (w139 hw) F.1 (con_isLatin1_13 hw G GS GI (pa0 := b) o1 oc (by omega)) pd13 ?_
  intro vq2 h3 S4 q2 zh3
  obtain ⟨rfl, rfl, rfl⟩ := q2
  refine Ow.Go.nr (S' := [vb]) (st' := [(.int 0)]) ?_
  refine Ow.ifT (pc' := 107) B e37_10 (by decide) ?_
  refine Ow.aloadN (pc' := 108) B e37_107 ?_
  refine Ow.getfield (pc' := 111) B e37_108 (w103 hw) Via.refl F.2.1 ?_
  refine Ow.iload (pc' := 113) B e37_111 (Ow.aloadN (pc' := 114) B e37_113 (Ow.iloadN (pc' := 115) B e37_114 (Ow.iloadN (pc' := 116) B e37_115 ?_)))
  refine Ow.Go.old (fun o5 => ?_)
  refine Ow.callStatic (pc' := 119) (W := 0) (k' := 0) (n' := 0) (argsL := [(.ref vb), (.int (Int32.ofNat cs.length)), (.ref a), (.int 0), (.int 0)]) (rest := []) B e37_116 (w288 hw) (w289 hw) (w72 hw) (w290 hw) (gPcB' hw G GS GI (N := 16) (di := cs.length) (ss := [x, y]) (ds := cs) (i := 0) (e' := 0) o5 (by simp) A oa (by omega) (by omega) (by decide) (by simp) (by simp) (by first|omega|(simp;omega)|simp) (by decide)) pd19 ?_
  intro vq6 h7 S8 q6 zh7
  obtain ⟨rfl, Kh7, f9, rfl⟩ := q6
  have f9 : Arv Z h7 vb kv .byte 32 (Ow.UB (cs)) (.int 0) := by have q := f9; simpa [Ow.sl] using q
  refine Ow.Go.nr (S' := [vb]) (st' := []) ?_
  refine Ow.aloadN (pc' := 120) B e37_119 (Ow.iload (pc' := 122) B e37_120 (Ow.iloadN (pc' := 123) B e37_122 ?_))
  refine Ow.iadd (pc' := 124) (z := ((Int32.ofNat cs.length) + (0 : Int32))) B e37_123 ?_
  refine Ow.iloadN (pc' := 125) B e37_124 ?_
  refine Ow.isub (pc' := 126) (z := (Int32.ofNat (cs.length + 0))) (hz := (Ow.cntL (a := cs.length) (e := 0) (i := 0) (by decide) (by omega))) B e37_125 ?_
  have f10 := F.2.2.2.1.keep Kh7 (Ow.ninS (by omega) Ow.nin0)
  have f11 := F.1.keep Kh7
  refine Ow.putfield (pc' := 129) (ty := .int) B e37_126 (w123 hw) Via.refl f10 f11 (Or.inl (w124 hw)) (w90 hw) (Or.inr ⟨by decide, by decide⟩) ?_
  intro h12 Wh12
  have f13 := F.2.1.keep Kh7 (Ow.ninS (by omega) Ow.nin0)
  have f14 := F.2.2.1.keep Kh7 (Ow.ninS (by omega) Ow.nin0)
  have f15 := oc.keep Kh7 (Ow.ninS (by omega) Ow.nin0)
  have Kh12 := Keep.of_wr Wh12
  have zh12 := Kh12.1
  have f16 : Fld Z h12 b "java/lang/AbstractStringBuilder" "count" "I" (.int (Int32.ofNat (cs.length + 0))) := f10.same Wh12
  have f17 : Fld Z h12 b "java/lang/AbstractStringBuilder" "value" "[B" (.ref vb) := f13.other Wh12 (Or.inr (slot_ne (a0 := a0) (C := "java/lang/StringBuilder") (t := (.array .byte)) (t' := .int) (Or.inl (w104 hw)) (Or.inl (w124 hw)) (by decide) (by decide) (by decide)))
  have f18 : Fld Z h12 b "java/lang/AbstractStringBuilder" "maybeLatin1" "Z" (.int 0) := f14.other Wh12 (Or.inr (slot_ne (a0 := a0) (C := "java/lang/StringBuilder") (t := .boolean) (t' := .int) (Or.inl (w302 hw)) (Or.inl (w124 hw)) (by decide) (by decide) (by decide)))
  have f19 : Fld Z h12 b "java/lang/AbstractStringBuilder" "coder" "B" (.int 1) := f15.other Wh12 (Or.inr (slot_ne (a0 := a0) (C := "java/lang/StringBuilder") (t := .byte) (t' := .int) (Or.inl (w106 hw)) (Or.inl (w124 hw)) (by decide) (by decide) (by decide)))
  have f20 := f9.keep Kh12 (Ow.ninS (by omega) Ow.nin0)
  have f21 := f11.keep Kh12
  exact Ow.retV (S' := [vb]) B e37_129 (⟨vb, kv, rfl, (((Keep.refl _ [b, vb]).trans Kh7 (allS (Or.inl (by simp)) all0)).trans Kh12 (allS (Or.inl (by simp)) all0)), Or.inl rfl, ⟨f21, f17, f18, f16, F.2.2.2.2.1, Or.inr ⟨f19, f20, ou⟩⟩, rfl⟩)
theorem gAch12 (hw : Hw a0 Z) (G : Ow.Glo Z cz sf) (GS : GlS Z) {iof : Value} (GI : Sta Z Z.heap "jdk/internal/util/Preconditions" "IOOBE_FORMATTER" "Ljava/util/function/BiFunction;" iof ∧ iof.isRef = true) {h0 : Heap} (O0 : Old Z n0 h0) {b vb : Nat} {kv : ClassId} {cs : List Int32} (F : Sbd Z h0 b vb kv cs) (hb : n0 ≤ b) (hv : n0 ≤ vb) (hne : b ≠ vb) {a : Nat} {ka : ClassId} {x y : Int32} (A : Arv Z h0 a ka .char 2 [(.int x), (.int y)] (.int 0)) (rx : ¬ x < (0 : Int32) ∧ ¬ (65535 : Int32) < x) (ry : ¬ y < (0 : Int32) ∧ ¬ (65535 : Int32) < y) (ha1 : a ≠ b) (ha2 : a ≠ vb) (hc : cs.length + 2 ≤ 16) :
    Ow.Con l Z EL1 n0 my37 jdk_68_method_74_code 9 (Option.none : Option Jvm.ClassFile.FieldType) [] ({ frames := 6, cells := 1, slots := 32, locals := 89 } : Room) #[(.ref b), (.ref a), (.int 1), (.int 2)] [vb] h0 (fun v h S' => ∃ v' : Nat, ∃ kr : ClassId, v = none ∧ Keep h0 h [b, vb] ∧ (v' = vb ∨ h0.size ≤ v') ∧ Sbd Z h b v' kr (cs ++ [y]) ∧ S' = [v']) := by
 rcases F.2.2.2.2.2 with ⟨oc, oa, ol⟩ | ⟨oc, oa, ou⟩
 ·refine Ow.Con.enter (Ls := #[vR b, vR a, vI 1, vI 2, .unset, .unset, .unset, .unset, .unset]) (plainFor_of_name pn4) O0 (hEW hw) (hSA hw) ?_
  intro p e s m below meth c B
  have z0 := Ow.old_le O0
  have lb : (b : Nat) < h0.size := F.lt
  have lvb : (vb : Nat) < h0.size := F.ltt
  have laa : (a : Nat) < h0.size := A.lt
  refine Ow.aloadN (pc' := 1) B e37_0 ?_
  refine Ow.getfield (pc' := 4) B e37_1 (w123 hw) Via.refl F.2.2.2.1 ?_
  refine Ow.istore (pc' := 6) (Ls' := #[vR b, vR a, vI 1, vI 2, vI (Int32.ofNat cs.length), .unset, .unset, .unset, .unset]) B e37_4 ?_
  refine Ow.aloadN (pc' := 7) B e37_6 ?_
  refine Ow.Go.old (fun o1 => ?_)
  refine Ow.callVirtual (pc' := 10) (W := 0) (k' := 0) (n' := 0) (argsL := []) (rest := []) (K := "java/lang/StringBuilder") B e37_7 (w135 hw) (w136 hw) (w138 hw) (w138 hw) (w137 hw) (w99 hw) (w139 hw) F.1 (con_isLatin1_11 hw G GS GI (pa0 := b) o1 oc (by omega)) pd13 ?_
  intro vq2 h3 S4 q2 zh3
  obtain ⟨rfl, rfl, rfl⟩ := q2
  refine Ow.Go.nr (S' := [vb]) (st' := [(.int 1)]) ?_
  refine Ow.ifF (pc' := 13) B e37_10 (by decide) ?_
  refine Ow.aloadN (pc' := 14) B e37_13 ?_
  refine Ow.getfield (pc' := 17) B e37_14 (w103 hw) Via.refl F.2.1 ?_
  refine Ow.astore (pc' := 19) (Ls' := #[vR b, vR a, vI 1, vI 2, vI (Int32.ofNat cs.length), vR vb, .unset, .unset, .unset]) B e37_17 ?_
  refine Ow.iloadN (pc' := 20) B e37_19 ?_
  refine Ow.istore (pc' := 22) (Ls' := #[vR b, vR a, vI 1, vI 2, vI (Int32.ofNat cs.length), vR vb, vI 1, .unset, .unset]) B e37_20 ?_
  refine Ow.iload (pc' := 24) B e37_22 ?_
  refine Ow.istore (pc' := 26) (Ls' := #[vR b, vR a, vI 1, vI 2, vI (Int32.ofNat cs.length), vR vb, vI 1, vI (Int32.ofNat cs.length), .unset]) B e37_24 ?_
  refine Ow.iload (pc' := 28) B e37_26 (Ow.iloadN (pc' := 29) B e37_28 ?_)
  refine Ow.icmpF (pc' := 32) B e37_29 (by decide) ?_
  refine Ow.aloadN (pc' := 33) B e37_32 (Ow.iload (pc' := 35) B e37_33 ?_)
  refine Ow.caload (pc' := 36) B e37_35 A ⟨by decide, by decide⟩ rfl ?_
  refine Ow.istore (pc' := 38) (Ls' := #[vR b, vR a, vI 1, vI 2, vI (Int32.ofNat cs.length), vR vb, vI 1, vI (Int32.ofNat cs.length), vI y]) B e37_36 ?_
  refine Ow.iload (pc' := 40) B e37_38 ?_
  refine Ow.Go.old (fun o5 => ?_)
  refine Ow.callStatic (pc' := 43) (W := 0) (k' := 0) (n' := 0) (argsL := [(.int y)]) (rest := []) B e37_40 (w140 hw) (w141 hw) (w142 hw) (w143 hw) (con_canEncode_12 hw G GS GI (px0 := y) o5) pd21 ?_
  intro vq6 h7 S8 q6 zh7
  rcases q6 with q6 | q6
  ·obtain ⟨rfl, rfl, c9, rfl⟩ := q6
   refine Ow.Go.nr (S' := [vb]) (st' := [(.int 0)]) ?_
   refine Ow.ifT (pc' := 60) B e37_43 (by decide) ?_
   refine Ow.aloadN (pc' := 61) B e37_60 (Ow.iload (pc' := 63) B e37_61 ?_)
   refine Ow.dup (pc' := 64) B e37_63 ?_
   refine Ow.istore (pc' := 66) (Ls' := #[vR b, vR a, vI 1, vI 2, vI (Int32.ofNat cs.length), vR vb, vI 1, vI (Int32.ofNat cs.length), vI y]) B e37_64 ?_
   refine Ow.putfield (pc' := 69) (ty := .int) B e37_66 (w123 hw) Via.refl F.2.2.2.1 F.1 (Or.inl (w124 hw)) (w90 hw) (Or.inr ⟨by decide, by decide⟩) ?_
   intro h10 Wh10
   have Kh10 := Keep.of_wr Wh10
   have zh10 := Kh10.1
   have f11 : Fld Z h10 b "java/lang/AbstractStringBuilder" "count" "I" (.int (Int32.ofNat cs.length)) := F.2.2.2.1.same Wh10
   have f12 : Fld Z h10 b "java/lang/AbstractStringBuilder" "value" "[B" (.ref vb) := F.2.1.other Wh10 (Or.inr (slot_ne (a0 := a0) (C := "java/lang/StringBuilder") (t := (.array .byte)) (t' := .int) (Or.inl (w104 hw)) (Or.inl (w124 hw)) (by decide) (by decide) (by decide)))
   have f13 : Fld Z h10 b "java/lang/AbstractStringBuilder" "maybeLatin1" "Z" (.int 0) := F.2.2.1.other Wh10 (Or.inr (slot_ne (a0 := a0) (C := "java/lang/StringBuilder") (t := .boolean) (t' := .int) (Or.inl (w302 hw)) (Or.inl (w124 hw)) (by decide) (by decide) (by decide)))
   have f14 : Fld Z h10 b "java/lang/AbstractStringBuilder" "coder" "B" (.int 0) := oc.other Wh10 (Or.inr (slot_ne (a0 := a0) (C := "java/lang/StringBuilder") (t := .byte) (t' := .int) (Or.inl (w106 hw)) (Or.inl (w124 hw)) (by decide) (by decide) (by decide)))
   refine Ow.aloadN (pc' := 70) B e37_69 ?_
   have f15 := oa.keep Kh10 (Ow.ninS (by omega) Ow.nin0)
   have f16 := F.1.keep Kh10
   refine Ow.Go.old (fun o17 => ?_)
   refine Ow.callPrivateS (pc' := 73) (W := 0) (k' := 1) (n' := 32) (argsL := []) (rest := []) (K := "java/lang/StringBuilder") B e37_70 (w258 hw) (w259 hw) (w260 hw) (w261 hw) (w99 hw) (w262 hw) f16 (gSbi hw G GS GI (cs := cs) o17 f16 f12 f13 f11 f14 f15 (F.2.2.2.2.1) (ol) (by first|omega|(simp;omega)|simp) (by omega)) pd22 ?_
   intro vq18 h19 S20 q18 zh19
   obtain ⟨r21, k22, rfl, Kh19, br21, f23, f24, f25, f26, f27, rfl⟩ := q18
   have lr21 : (r21 : Nat) < h19.size := f27.lt
   refine Ow.Go.norm (S' := [r21, vb]) (st' := []) (fun _ q => q) rfl ?_
   refine Ow.aloadN (pc' := 74) B e37_73 ?_
   refine Ow.getfield (pc' := 77) B e37_74 (w103 hw) Via.refl f23 ?_
   refine Ow.iload (pc' := 79) B e37_77 (Ow.aloadN (pc' := 80) B e37_79 (Ow.iload (pc' := 82) B e37_80 (Ow.iloadN (pc' := 83) B e37_82 ?_)))
   have f28 := A.keep Kh10 (Ow.ninS (by omega) Ow.nin0)
   have f29 := f28.keep Kh19 (Ow.ninS (by omega) Ow.nin0)
   refine Ow.Go.old (fun o30 => ?_)
   refine Ow.callStatic (pc' := 86) (W := 0) (k' := 1) (n' := 32) (argsL := [(.ref r21), (.int (Int32.ofNat cs.length)), (.ref a), (.int 1), (.int 2)]) (rest := []) B e37_83 (w288 hw) (w289 hw) (w72 hw) (w290 hw) (gPcB' hw G GS GI (N := 16) (di := cs.length) (ss := [x, y]) (ds := cs) (i := 1) (e' := 2) o30 (by simp) f29 f27 (by omega) (by omega) (by decide) (by simp) (by simp) (by first|omega|(simp;omega)|simp) (by decide)) pd19 ?_
   intro vq31 h32 S33 q31 zh32
   obtain ⟨rfl, Kh32, f34, rfl⟩ := q31
   have f34 : Arv Z h32 r21 k22 .byte 32 (Ow.UB (cs ++ [y])) (.int 0) := by have q := f34; simpa [Ow.sl] using q
   refine Ow.Go.nr (S' := [r21, vb]) (st' := []) ?_
   refine Ow.aloadN (pc' := 87) B e37_86 (Ow.iload (pc' := 89) B e37_87 (Ow.iloadN (pc' := 90) B e37_89 ?_))
   refine Ow.iadd (pc' := 91) (z := ((Int32.ofNat cs.length) + (2 : Int32))) B e37_90 ?_
   refine Ow.iload (pc' := 93) B e37_91 ?_
   refine Ow.isub (pc' := 94) (z := (Int32.ofNat (cs.length + 1))) (hz := (Ow.cntL (a := cs.length) (e := 2) (i := 1) (by decide) (by omega))) B e37_93 ?_
   have f35 := f25.keep Kh32 (Ow.ninS (by omega) Ow.nin0)
   have f36 := f16.keep Kh19
   have f37 := f36.keep Kh32
   refine Ow.putfield (pc' := 97) (ty := .int) B e37_94 (w123 hw) Via.refl f35 f37 (Or.inl (w124 hw)) (w90 hw) (Or.inr ⟨by decide, by decide⟩) ?_
   intro h38 Wh38
   have f39 := f23.keep Kh32 (Ow.ninS (by omega) Ow.nin0)
   have f40 := f24.keep Kh32 (Ow.ninS (by omega) Ow.nin0)
   have f41 := f26.keep Kh32 (Ow.ninS (by omega) Ow.nin0)
   have Kh38 := Keep.of_wr Wh38
   have zh38 := Kh38.1
   have f42 : Fld Z h38 b "java/lang/AbstractStringBuilder" "count" "I" (.int (Int32.ofNat (cs.length + 1))) := f35.same Wh38
   have f43 : Fld Z h38 b "java/lang/AbstractStringBuilder" "value" "[B" (.ref r21) := f39.other Wh38 (Or.inr (slot_ne (a0 := a0) (C := "java/lang/StringBuilder") (t := (.array .byte)) (t' := .int) (Or.inl (w104 hw)) (Or.inl (w124 hw)) (by decide) (by decide) (by decide)))
   have f44 : Fld Z h38 b "java/lang/AbstractStringBuilder" "maybeLatin1" "Z" (.int 0) := f40.other Wh38 (Or.inr (slot_ne (a0 := a0) (C := "java/lang/StringBuilder") (t := .boolean) (t' := .int) (Or.inl (w302 hw)) (Or.inl (w124 hw)) (by decide) (by decide) (by decide)))
   have f45 : Fld Z h38 b "java/lang/AbstractStringBuilder" "coder" "B" (.int 1) := f41.other Wh38 (Or.inr (slot_ne (a0 := a0) (C := "java/lang/StringBuilder") (t := .byte) (t' := .int) (Or.inl (w106 hw)) (Or.inl (w124 hw)) (by decide) (by decide) (by decide)))
   have f46 := f34.keep Kh38 (Ow.ninS (by omega) Ow.nin0)
   have f47 := f37.keep Kh38
   exact Ow.retV (S' := [r21]) B e37_97 (⟨r21, k22, rfl, (((((Keep.refl _ [b, vb]).trans Kh10 (allS (Or.inl (by simp)) all0)).trans Kh19 (allS (Or.inl (by simp)) all0)).trans Kh32 (allS (Or.inr (by omega)) all0)).trans Kh38 (allS (Or.inl (by simp)) all0)), Or.inr (by omega), ⟨f47, f43, f44, (by rw [show (cs ++ [y]).length = cs.length + 1 from by simp]; exact f42), (Ow.Rng.app F.2.2.2.2.1 (Ow.allI ry Ow.allI0)), Or.inr ⟨f45, f46, (Ow.hiR ⟨y, by simp, c9⟩)⟩⟩, rfl⟩)
  ·obtain ⟨rfl, rfl, c48, rfl⟩ := q6
   refine Ow.Go.nr (S' := [vb]) (st' := [(.int 1)]) ?_
   refine Ow.ifF (pc' := 46) B e37_43 (by decide) ?_
   refine Ow.aload (pc' := 48) B e37_46 (Ow.iload (pc' := 50) B e37_48 ?_)
   refine Ow.iinc (pc' := 53) (y := (Int32.ofNat (cs.length + 1))) (Ls' := #[vR b, vR a, vI 1, vI 2, vI (Int32.ofNat cs.length), vR vb, vI 1, vI (Int32.ofNat (cs.length + 1)), vI y]) (hy := ((Ow.nS _)).symm) B e37_50 ?_
   refine Ow.iload (pc' := 55) B e37_53 ?_
   refine Ow.i2b (pc' := 56) (z := y.toInt8.toInt32) B e37_55 ?_
   refine Ow.bastore (pc' := 57) (i := (cs).length) B e37_56 (oa.pad (Ow.pad1 _ _)) ⟨(by rw [show ((Int32.ofNat cs.length)) = Int32.ofNat (cs).length from by simp]; exact Ow.nn (by first|omega|(simp;omega)|simp)), (by rw [show ((Int32.ofNat cs.length)) = Int32.ofNat (cs).length from by simp]; exact Ow.nlT (n := 16) (by first|omega|(simp;omega)|simp))⟩ (by simp) ?_ (hlt := by simp) (hi := (by rw [show ((Int32.ofNat cs.length)) = Int32.ofNat (cs).length from by simp]; exact Ow.nc (by first|omega|(simp;omega)|simp)))
   intro h49 Kh49 V50
   have zh49 := Kh49.1
   rw [Ow.nar_b, Ow.LBs] at V50
   refine Ow.goto (pc' := 98) B e37_57 ?_
   refine Ow.iinc (pc' := 101) (y := 2) (Ls' := #[vR b, vR a, vI 1, vI 2, vI (Int32.ofNat cs.length), vR vb, vI 2, vI (Int32.ofNat (cs.length + 1)), vI y]) B e37_98 ?_
   refine Ow.goto (pc' := 26) B e37_101 ?_
   refine Ow.iload (pc' := 28) B e37_26 (Ow.iloadN (pc' := 29) B e37_28 ?_)
   refine Ow.icmpT (pc' := 104) B e37_29 (by decide) ?_
   refine Ow.goto (pc' := 119) B e37_104 ?_
   refine Ow.aloadN (pc' := 120) B e37_119 (Ow.iload (pc' := 122) B e37_120 (Ow.iloadN (pc' := 123) B e37_122 ?_))
   refine Ow.iadd (pc' := 124) (z := ((Int32.ofNat cs.length) + (2 : Int32))) B e37_123 ?_
   refine Ow.iloadN (pc' := 125) B e37_124 ?_
   refine Ow.isub (pc' := 126) (z := (Int32.ofNat (cs.length + 1))) (hz := (Ow.cntL (a := cs.length) (e := 2) (i := 1) (by decide) (by omega))) B e37_125 ?_
   have f51 := F.2.2.2.1.keep Kh49 (Ow.ninS (by omega) Ow.nin0)
   have f52 := F.1.keep Kh49
   refine Ow.putfield (pc' := 129) (ty := .int) B e37_126 (w123 hw) Via.refl f51 f52 (Or.inl (w124 hw)) (w90 hw) (Or.inr ⟨by decide, by decide⟩) ?_
   intro h53 Wh53
   have f54 := F.2.1.keep Kh49 (Ow.ninS (by omega) Ow.nin0)
   have f55 := F.2.2.1.keep Kh49 (Ow.ninS (by omega) Ow.nin0)
   have f56 := oc.keep Kh49 (Ow.ninS (by omega) Ow.nin0)
   have Kh53 := Keep.of_wr Wh53
   have zh53 := Kh53.1
   have f57 : Fld Z h53 b "java/lang/AbstractStringBuilder" "count" "I" (.int (Int32.ofNat (cs.length + 1))) := f51.same Wh53
   have f58 : Fld Z h53 b "java/lang/AbstractStringBuilder" "value" "[B" (.ref vb) := f54.other Wh53 (Or.inr (slot_ne (a0 := a0) (C := "java/lang/StringBuilder") (t := (.array .byte)) (t' := .int) (Or.inl (w104 hw)) (Or.inl (w124 hw)) (by decide) (by decide) (by decide)))
   have f59 : Fld Z h53 b "java/lang/AbstractStringBuilder" "maybeLatin1" "Z" (.int 0) := f55.other Wh53 (Or.inr (slot_ne (a0 := a0) (C := "java/lang/StringBuilder") (t := .boolean) (t' := .int) (Or.inl (w302 hw)) (Or.inl (w124 hw)) (by decide) (by decide) (by decide)))
   have f60 : Fld Z h53 b "java/lang/AbstractStringBuilder" "coder" "B" (.int 0) := f56.other Wh53 (Or.inr (slot_ne (a0 := a0) (C := "java/lang/StringBuilder") (t := .byte) (t' := .int) (Or.inl (w106 hw)) (Or.inl (w124 hw)) (by decide) (by decide) (by decide)))
   have f61 := V50.keep Kh53 (Ow.ninS (by omega) Ow.nin0)
   have f62 := f52.keep Kh53
   exact Ow.retV (S' := [vb]) B e37_129 (⟨vb, kv, rfl, (((Keep.refl _ [b, vb]).trans Kh49 (allS (Or.inl (by simp)) all0)).trans Kh53 (allS (Or.inl (by simp)) all0)), Or.inl rfl, ⟨f62, f58, f59, (by rw [show (cs ++ [y]).length = cs.length + 1 from by simp]; exact f57), (Ow.Rng.app F.2.2.2.2.1 (Ow.allI ry Ow.allI0)), Or.inl ⟨f60, f61, (Ow.Lat.app ol (Ow.allI (c48) Ow.allI0))⟩⟩, rfl⟩)
 ·refine Ow.Con.enter (Ls := #[vR b, vR a, vI 1, vI 2, .unset, .unset, .unset, .unset, .unset]) (plainFor_of_name pn4) O0 (hEW hw) (hSA hw) ?_
  intro p e s m below meth c B
  have z0 := Ow.old_le O0
  have lb : (b : Nat) < h0.size := F.lt
  have lvb : (vb : Nat) < h0.size := F.ltt
  have laa : (a : Nat) < h0.size := A.lt
  refine Ow.aloadN (pc' := 1) B e37_0 ?_
  refine Ow.getfield (pc' := 4) B e37_1 (w123 hw) Via.refl F.2.2.2.1 ?_
  refine Ow.istore (pc' := 6) (Ls' := #[vR b, vR a, vI 1, vI 2, vI (Int32.ofNat cs.length), .unset, .unset, .unset, .unset]) B e37_4 ?_
  refine Ow.aloadN (pc' := 7) B e37_6 ?_
  refine Ow.Go.old (fun o1 => ?_)
  refine Ow.callVirtual (pc' := 10) (W := 0) (k' := 0) (n' := 0) (argsL := []) (rest := []) (K := "java/lang/StringBuilder") B e37_7 (w135 hw) (w136 hw) (w138 hw) (w138 hw) (w137 hw) (w99 hw) (w139 hw) F.1 (con_isLatin1_13 hw G GS GI (pa0 := b) o1 oc (by omega)) pd13 ?_
  intro vq2 h3 S4 q2 zh3
  obtain ⟨rfl, rfl, rfl⟩ := q2
  refine Ow.Go.nr (S' := [vb]) (st' := [(.int 0)]) ?_
  refine Ow.ifT (pc' := 107) B e37_10 (by decide) ?_
  refine Ow.aloadN (pc' := 108) B e37_107 ?_
  refine Ow.getfield (pc' := 111) B e37_108 (w103 hw) Via.refl F.2.1 ?_
  refine Ow.iload (pc' := 113) B e37_111 (Ow.aloadN (pc' := 114) B e37_113 (Ow.iloadN (pc' := 115) B e37_114 (Ow.iloadN (pc' := 116) B e37_115 ?_)))
  refine Ow.Go.old (fun o5 => ?_)
  refine Ow.callStatic (pc' := 119) (W := 0) (k' := 0) (n' := 0) (argsL := [(.ref vb), (.int (Int32.ofNat cs.length)), (.ref a), (.int 1), (.int 2)]) (rest := []) B e37_116 (w288 hw) (w289 hw) (w72 hw) (w290 hw) (gPcB' hw G GS GI (N := 16) (di := cs.length) (ss := [x, y]) (ds := cs) (i := 1) (e' := 2) o5 (by simp) A oa (by omega) (by omega) (by decide) (by simp) (by simp) (by first|omega|(simp;omega)|simp) (by decide)) pd19 ?_
  intro vq6 h7 S8 q6 zh7
  obtain ⟨rfl, Kh7, f9, rfl⟩ := q6
  have f9 : Arv Z h7 vb kv .byte 32 (Ow.UB (cs ++ [y])) (.int 0) := by have q := f9; simpa [Ow.sl] using q
  refine Ow.Go.nr (S' := [vb]) (st' := []) ?_
  refine Ow.aloadN (pc' := 120) B e37_119 (Ow.iload (pc' := 122) B e37_120 (Ow.iloadN (pc' := 123) B e37_122 ?_))
  refine Ow.iadd (pc' := 124) (z := ((Int32.ofNat cs.length) + (2 : Int32))) B e37_123 ?_
  refine Ow.iloadN (pc' := 125) B e37_124 ?_
  refine Ow.isub (pc' := 126) (z := (Int32.ofNat (cs.length + 1))) (hz := (Ow.cntL (a := cs.length) (e := 2) (i := 1) (by decide) (by omega))) B e37_125 ?_
  have f10 := F.2.2.2.1.keep Kh7 (Ow.ninS (by omega) Ow.nin0)
  have f11 := F.1.keep Kh7
  refine Ow.putfield (pc' := 129) (ty := .int) B e37_126 (w123 hw) Via.refl f10 f11 (Or.inl (w124 hw)) (w90 hw) (Or.inr ⟨by decide, by decide⟩) ?_
  intro h12 Wh12
  have f13 := F.2.1.keep Kh7 (Ow.ninS (by omega) Ow.nin0)
  have f14 := F.2.2.1.keep Kh7 (Ow.ninS (by omega) Ow.nin0)
  have f15 := oc.keep Kh7 (Ow.ninS (by omega) Ow.nin0)
  have Kh12 := Keep.of_wr Wh12
  have zh12 := Kh12.1
  have f16 : Fld Z h12 b "java/lang/AbstractStringBuilder" "count" "I" (.int (Int32.ofNat (cs.length + 1))) := f10.same Wh12
  have f17 : Fld Z h12 b "java/lang/AbstractStringBuilder" "value" "[B" (.ref vb) := f13.other Wh12 (Or.inr (slot_ne (a0 := a0) (C := "java/lang/StringBuilder") (t := (.array .byte)) (t' := .int) (Or.inl (w104 hw)) (Or.inl (w124 hw)) (by decide) (by decide) (by decide)))
  have f18 : Fld Z h12 b "java/lang/AbstractStringBuilder" "maybeLatin1" "Z" (.int 0) := f14.other Wh12 (Or.inr (slot_ne (a0 := a0) (C := "java/lang/StringBuilder") (t := .boolean) (t' := .int) (Or.inl (w302 hw)) (Or.inl (w124 hw)) (by decide) (by decide) (by decide)))
  have f19 : Fld Z h12 b "java/lang/AbstractStringBuilder" "coder" "B" (.int 1) := f15.other Wh12 (Or.inr (slot_ne (a0 := a0) (C := "java/lang/StringBuilder") (t := .byte) (t' := .int) (Or.inl (w106 hw)) (Or.inl (w124 hw)) (by decide) (by decide) (by decide)))
  have f20 := f9.keep Kh12 (Ow.ninS (by omega) Ow.nin0)
  have f21 := f11.keep Kh12
  exact Ow.retV (S' := [vb]) B e37_129 (⟨vb, kv, rfl, (((Keep.refl _ [b, vb]).trans Kh7 (allS (Or.inl (by simp)) all0)).trans Kh12 (allS (Or.inl (by simp)) all0)), Or.inl rfl, ⟨f21, f17, f18, (by rw [show (cs ++ [y]).length = cs.length + 1 from by simp]; exact f16), (Ow.Rng.app F.2.2.2.2.1 (Ow.allI ry Ow.allI0)), Or.inr ⟨f19, f20, (Ow.hiL ou)⟩⟩, rfl⟩)
theorem gAch02 (hw : Hw a0 Z) (G : Ow.Glo Z cz sf) (GS : GlS Z) {iof : Value} (GI : Sta Z Z.heap "jdk/internal/util/Preconditions" "IOOBE_FORMATTER" "Ljava/util/function/BiFunction;" iof ∧ iof.isRef = true) {h0 : Heap} (O0 : Old Z n0 h0) {b vb : Nat} {kv : ClassId} {cs : List Int32} (F : Sbd Z h0 b vb kv cs) (hb : n0 ≤ b) (hv : n0 ≤ vb) (hne : b ≠ vb) {a : Nat} {ka : ClassId} {x y : Int32} (A : Arv Z h0 a ka .char 2 [(.int x), (.int y)] (.int 0)) (rx : ¬ x < (0 : Int32) ∧ ¬ (65535 : Int32) < x) (ry : ¬ y < (0 : Int32) ∧ ¬ (65535 : Int32) < y) (ha1 : a ≠ b) (ha2 : a ≠ vb) (hc : cs.length + 2 ≤ 16) :
    Ow.Con l Z EL1 n0 my37 jdk_68_method_74_code 9 (Option.none : Option Jvm.ClassFile.FieldType) [] ({ frames := 6, cells := 1, slots := 32, locals := 89 } : Room) #[(.ref b), (.ref a), (.int 0), (.int 2)] [vb] h0 (fun v h S' => ∃ v' : Nat, ∃ kr : ClassId, v = none ∧ Keep h0 h [b, vb] ∧ (v' = vb ∨ h0.size ≤ v') ∧ Sbd Z h b v' kr (cs ++ [x, y]) ∧ S' = [v']) := by
 rcases F.2.2.2.2.2 with ⟨oc, oa, ol⟩ | ⟨oc, oa, ou⟩
 ·refine Ow.Con.enter (Ls := #[vR b, vR a, vI 0, vI 2, .unset, .unset, .unset, .unset, .unset]) (plainFor_of_name pn4) O0 (hEW hw) (hSA hw) ?_
  intro p e s m below meth c B
  have z0 := Ow.old_le O0
  have lb : (b : Nat) < h0.size := F.lt
  have lvb : (vb : Nat) < h0.size := F.ltt
  have laa : (a : Nat) < h0.size := A.lt
  refine Ow.aloadN (pc' := 1) B e37_0 ?_
  refine Ow.getfield (pc' := 4) B e37_1 (w123 hw) Via.refl F.2.2.2.1 ?_
  refine Ow.istore (pc' := 6) (Ls' := #[vR b, vR a, vI 0, vI 2, vI (Int32.ofNat cs.length), .unset, .unset, .unset, .unset]) B e37_4 ?_
  refine Ow.aloadN (pc' := 7) B e37_6 ?_
  refine Ow.Go.old (fun o1 => ?_)
  refine Ow.callVirtual (pc' := 10) (W := 0) (k' := 0) (n' := 0) (argsL := []) (rest := []) (K := "java/lang/StringBuilder") B e37_7 (w135 hw) (w136 hw) (w138 hw) (w138 hw) (w137 hw) (w99 hw) (w139 hw) F.1 (con_isLatin1_11 hw G GS GI (pa0 := b) o1 oc (by omega)) pd13 ?_
  intro vq2 h3 S4 q2 zh3
  obtain ⟨rfl, rfl, rfl⟩ := q2
  refine Ow.Go.nr (S' := [vb]) (st' := [(.int 1)]) ?_
  refine Ow.ifF (pc' := 13) B e37_10 (by decide) ?_
  refine Ow.aloadN (pc' := 14) B e37_13 ?_
  refine Ow.getfield (pc' := 17) B e37_14 (w103 hw) Via.refl F.2.1 ?_
  refine Ow.astore (pc' := 19) (Ls' := #[vR b, vR a, vI 0, vI 2, vI (Int32.ofNat cs.length), vR vb, .unset, .unset, .unset]) B e37_17 ?_
  refine Ow.iloadN (pc' := 20) B e37_19 ?_
  refine Ow.istore (pc' := 22) (Ls' := #[vR b, vR a, vI 0, vI 2, vI (Int32.ofNat cs.length), vR vb, vI 0, .unset, .unset]) B e37_20 ?_
  refine Ow.iload (pc' := 24) B e37_22 ?_
  refine Ow.istore (pc' := 26) (Ls' := #[vR b, vR a, vI 0, vI 2, vI (Int32.ofNat cs.length), vR vb, vI 0, vI (Int32.ofNat cs.length), .unset]) B e37_24 ?_
  refine Ow.iload (pc' := 28) B e37_26 (Ow.iloadN (pc' := 29) B e37_28 ?_)
  refine Ow.icmpF (pc' := 32) B e37_29 (by decide) ?_
  refine Ow.aloadN (pc' := 33) B e37_32 (Ow.iload (pc' := 35) B e37_33 ?_)
  refine Ow.caload (pc' := 36) B e37_35 A ⟨by decide, by decide⟩ rfl ?_
  refine Ow.istore (pc' := 38) (Ls' := #[vR b, vR a, vI 0, vI 2, vI (Int32.ofNat cs.length), vR vb, vI 0, vI (Int32.ofNat cs.length), vI x]) B e37_36 ?_
  refine Ow.iload (pc' := 40) B e37_38 ?_
  refine Ow.Go.old (fun o5 => ?_)
  refine Ow.callStatic (pc' := 43) (W := 0) (k' := 0) (n' := 0) (argsL := [(.int x)]) (rest := []) B e37_40 (w140 hw) (w141 hw) (w142 hw) (w143 hw) (con_canEncode_12 hw G GS GI (px0 := x) o5) pd21 ?_
  intro vq6 h7 S8 q6 zh7
  rcases q6 with q6 | q6
  ·obtain ⟨rfl, rfl, c9, rfl⟩ := q6
   refine Ow.Go.nr (S' := [vb]) (st' := [(.int 0)]) ?_
   refine Ow.ifT (pc' := 60) B e37_43 (by decide) ?_
   refine Ow.aloadN (pc' := 61) B e37_60 (Ow.iload (pc' := 63) B e37_61 ?_)
   refine Ow.dup (pc' := 64) B e37_63 ?_
   refine Ow.istore (pc' := 66) (Ls' := #[vR b, vR a, vI 0, vI 2, vI (Int32.ofNat cs.length), vR vb, vI 0, vI (Int32.ofNat cs.length), vI x]) B e37_64 ?_
   refine Ow.putfield (pc' := 69) (ty := .int) B e37_66 (w123 hw) Via.refl F.2.2.2.1 F.1 (Or.inl (w124 hw)) (w90 hw) (Or.inr ⟨by decide, by decide⟩) ?_
   intro h10 Wh10
   have Kh10 := Keep.of_wr Wh10
   have zh10 := Kh10.1
   have f11 : Fld Z h10 b "java/lang/AbstractStringBuilder" "count" "I" (.int (Int32.ofNat cs.length)) := F.2.2.2.1.same Wh10
   have f12 : Fld Z h10 b "java/lang/AbstractStringBuilder" "value" "[B" (.ref vb) := F.2.1.other Wh10 (Or.inr (slot_ne (a0 := a0) (C := "java/lang/StringBuilder") (t := (.array .byte)) (t' := .int) (Or.inl (w104 hw)) (Or.inl (w124 hw)) (by decide) (by decide) (by decide)))
   have f13 : Fld Z h10 b "java/lang/AbstractStringBuilder" "maybeLatin1" "Z" (.int 0) := F.2.2.1.other Wh10 (Or.inr (slot_ne (a0 := a0) (C := "java/lang/StringBuilder") (t := .boolean) (t' := .int) (Or.inl (w302 hw)) (Or.inl (w124 hw)) (by decide) (by decide) (by decide)))
   have f14 : Fld Z h10 b "java/lang/AbstractStringBuilder" "coder" "B" (.int 0) := oc.other Wh10 (Or.inr (slot_ne (a0 := a0) (C := "java/lang/StringBuilder") (t := .byte) (t' := .int) (Or.inl (w106 hw)) (Or.inl (w124 hw)) (by decide) (by decide) (by decide)))
   refine Ow.aloadN (pc' := 70) B e37_69 ?_
   have f15 := oa.keep Kh10 (Ow.ninS (by omega) Ow.nin0)
   have f16 := F.1.keep Kh10
   refine Ow.Go.old (fun o17 => ?_)
   refine Ow.callPrivateS (pc' := 73) (W := 0) (k' := 1) (n' := 32) (argsL := []) (rest := []) (K := "java/lang/StringBuilder") B e37_70 (w258 hw) (w259 hw) (w260 hw) (w261 hw) (w99 hw) (w262 hw) f16 (gSbi hw G GS GI (cs := cs) o17 f16 f12 f13 f11 f14 f15 (F.2.2.2.2.1) (ol) (by first|omega|(simp;omega)|simp) (by omega)) pd22 ?_
   intro vq18 h19 S20 q18 zh19
   obtain ⟨r21, k22, rfl, Kh19, br21, f23, f24, f25, f26, f27, rfl⟩ := q18
   have lr21 : (r21 : Nat) < h19.size := f27.lt
   refine Ow.Go.norm (S' := [r21, vb]) (st' := []) (fun _ q => q) rfl ?_
   refine Ow.aloadN (pc' := 74) B e37_73 ?_
   refine Ow.getfield (pc' := 77) B e37_74 (w103 hw) Via.refl f23 ?_
   refine Ow.iload (pc' := 79) B e37_77 (Ow.aloadN (pc' := 80) B e37_79 (Ow.iload (pc' := 82) B e37_80 (Ow.iloadN (pc' := 83) B e37_82 ?_)))
   have f28 := A.keep Kh10 (Ow.ninS (by omega) Ow.nin0)
   have f29 := f28.keep Kh19 (Ow.ninS (by omega) Ow.nin0)
   refine Ow.Go.old (fun o30 => ?_)
   refine Ow.callStatic (pc' := 86) (W := 0) (k' := 1) (n' := 32) (argsL := [(.ref r21), (.int (Int32.ofNat cs.length)), (.ref a), (.int 0), (.int 2)]) (rest := []) B e37_83 (w288 hw) (w289 hw) (w72 hw) (w290 hw) (gPcB' hw G GS GI (N := 16) (di := cs.length) (ss := [x, y]) (ds := cs) (i := 0) (e' := 2) o30 (by simp) f29 f27 (by omega) (by omega) (by decide) (by simp) (by simp) (by first|omega|(simp;omega)|simp) (by decide)) pd19 ?_
   intro vq31 h32 S33 q31 zh32
   obtain ⟨rfl, Kh32, f34, rfl⟩ := q31
   have f34 : Arv Z h32 r21 k22 .byte 32 (Ow.UB (cs ++ [x, y])) (.int 0) := by have q := f34; simpa [Ow.sl] using q
   refine Ow.Go.nr (S' := [r21, vb]) (st' := []) ?_
   refine Ow.aloadN (pc' := 87) B e37_86 (Ow.iload (pc' := 89) B e37_87 (Ow.iloadN (pc' := 90) B e37_89 ?_))
   refine Ow.iadd (pc' := 91) (z := ((Int32.ofNat cs.length) + (2 : Int32))) B e37_90 ?_
   refine Ow.iload (pc' := 93) B e37_91 ?_
   refine Ow.isub (pc' := 94) (z := (Int32.ofNat (cs.length + 2))) (hz := (Ow.cntL (a := cs.length) (e := 2) (i := 0) (by decide) (by omega))) B e37_93 ?_
   have f35 := f25.keep Kh32 (Ow.ninS (by omega) Ow.nin0)
   have f36 := f16.keep Kh19
   have f37 := f36.keep Kh32
   refine Ow.putfield (pc' := 97) (ty := .int) B e37_94 (w123 hw) Via.refl f35 f37 (Or.inl (w124 hw)) (w90 hw) (Or.inr ⟨by decide, by decide⟩) ?_
   intro h38 Wh38
   have f39 := f23.keep Kh32 (Ow.ninS (by omega) Ow.nin0)
   have f40 := f24.keep Kh32 (Ow.ninS (by omega) Ow.nin0)
   have f41 := f26.keep Kh32 (Ow.ninS (by omega) Ow.nin0)
   have Kh38 := Keep.of_wr Wh38
   have zh38 := Kh38.1
   have f42 : Fld Z h38 b "java/lang/AbstractStringBuilder" "count" "I" (.int (Int32.ofNat (cs.length + 2))) := f35.same Wh38
   have f43 : Fld Z h38 b "java/lang/AbstractStringBuilder" "value" "[B" (.ref r21) := f39.other Wh38 (Or.inr (slot_ne (a0 := a0) (C := "java/lang/StringBuilder") (t := (.array .byte)) (t' := .int) (Or.inl (w104 hw)) (Or.inl (w124 hw)) (by decide) (by decide) (by decide)))
   have f44 : Fld Z h38 b "java/lang/AbstractStringBuilder" "maybeLatin1" "Z" (.int 0) := f40.other Wh38 (Or.inr (slot_ne (a0 := a0) (C := "java/lang/StringBuilder") (t := .boolean) (t' := .int) (Or.inl (w302 hw)) (Or.inl (w124 hw)) (by decide) (by decide) (by decide)))
   have f45 : Fld Z h38 b "java/lang/AbstractStringBuilder" "coder" "B" (.int 1) := f41.other Wh38 (Or.inr (slot_ne (a0 := a0) (C := "java/lang/StringBuilder") (t := .byte) (t' := .int) (Or.inl (w106 hw)) (Or.inl (w124 hw)) (by decide) (by decide) (by decide)))
   have f46 := f34.keep Kh38 (Ow.ninS (by omega) Ow.nin0)
   have f47 := f37.keep Kh38
   exact Ow.retV (S' := [r21]) B e37_97 (⟨r21, k22, rfl, (((((Keep.refl _ [b, vb]).trans Kh10 (allS (Or.inl (by simp)) all0)).trans Kh19 (allS (Or.inl (by simp)) all0)).trans Kh32 (allS (Or.inr (by omega)) all0)).trans Kh38 (allS (Or.inl (by simp)) all0)), Or.inr (by omega), ⟨f47, f43, f44, (by rw [show (cs ++ [x, y]).length = cs.length + 2 from by simp]; exact f42), (Ow.Rng.app F.2.2.2.2.1 (Ow.allI rx (Ow.allI ry Ow.allI0))), Or.inr ⟨f45, f46, (Ow.hiR ⟨x, by simp, c9⟩)⟩⟩, rfl⟩)
  ·obtain ⟨rfl, rfl, c48, rfl⟩ := q6
   refine Ow.Go.nr (S' := [vb]) (st' := [(.int 1)]) ?_
   refine Ow.ifF (pc' := 46) B e37_43 (by decide) ?_
   refine Ow.aload (pc' := 48) B e37_46 (Ow.iload (pc' := 50) B e37_48 ?_)
   refine Ow.iinc (pc' := 53) (y := (Int32.ofNat (cs.length + 1))) (Ls' := #[vR b, vR a, vI 0, vI 2, vI (Int32.ofNat cs.length), vR vb, vI 0, vI (Int32.ofNat (cs.length + 1)), vI x]) (hy := ((Ow.nS _)).symm) B e37_50 ?_
   refine Ow.iload (pc' := 55) B e37_53 ?_
   refine Ow.i2b (pc' := 56) (z := x.toInt8.toInt32) B e37_55 ?_
   refine Ow.bastore (pc' := 57) (i := (cs).length) B e37_56 (oa.pad (Ow.pad1 _ _)) ⟨(by rw [show ((Int32.ofNat cs.length)) = Int32.ofNat (cs).length from by simp]; exact Ow.nn (by first|omega|(simp;omega)|simp)), (by rw [show ((Int32.ofNat cs.length)) = Int32.ofNat (cs).length from by simp]; exact Ow.nlT (n := 16) (by first|omega|(simp;omega)|simp))⟩ (by simp) ?_ (hlt := by simp) (hi := (by rw [show ((Int32.ofNat cs.length)) = Int32.ofNat (cs).length from by simp]; exact Ow.nc (by first|omega|(simp;omega)|simp)))
   intro h49 Kh49 V50
   have zh49 := Kh49.1
   rw [Ow.nar_b, Ow.LBs] at V50
   refine Ow.goto (pc' := 98) B e37_57 ?_
   refine Ow.iinc (pc' := 101) (y := 1) (Ls' := #[vR b, vR a, vI 0, vI 2, vI (Int32.ofNat cs.length), vR vb, vI 1, vI (Int32.ofNat (cs.length + 1)), vI x]) B e37_98 ?_
   refine Ow.goto (pc' := 26) B e37_101 ?_
   refine Ow.iload (pc' := 28) B e37_26 (Ow.iloadN (pc' := 29) B e37_28 ?_)
   refine Ow.icmpF (pc' := 32) B e37_29 (by decide) ?_
   refine Ow.aloadN (pc' := 33) B e37_32 (Ow.iload (pc' := 35) B e37_33 ?_)
   have f51 := A.keep Kh49 (Ow.ninS (by omega) Ow.nin0)
   refine Ow.caload (pc' := 36) B e37_35 f51 ⟨by decide, by decide⟩ rfl ?_
   refine Ow.istore (pc' := 38) (Ls' := #[vR b, vR a, vI 0, vI 2, vI (Int32.ofNat cs.length), vR vb, vI 1, vI (Int32.ofNat (cs.length + 1)), vI y]) B e37_36 ?_
   refine Ow.iload (pc' := 40) B e37_38 ?_
   refine Ow.Go.old (fun o52 => ?_)
   refine Ow.callStatic (pc' := 43) (W := 0) (k' := 0) (n' := 0) (argsL := [(.int y)]) (rest := []) B e37_40 (w140 hw) (w141 hw) (w142 hw) (w143 hw) (con_canEncode_12 hw G GS GI (px0 := y) o52) pd21 ?_
   intro vq53 h54 S55 q53 zh54
   rcases q53 with q53 | q53
   ·obtain ⟨rfl, rfl, c56, rfl⟩ := q53
    refine Ow.Go.nr (S' := [vb]) (st' := [(.int 0)]) ?_
    refine Ow.ifT (pc' := 60) B e37_43 (by decide) ?_
    refine Ow.aloadN (pc' := 61) B e37_60 (Ow.iload (pc' := 63) B e37_61 ?_)
    refine Ow.dup (pc' := 64) B e37_63 ?_
    refine Ow.istore (pc' := 66) (Ls' := #[vR b, vR a, vI 0, vI 2, vI (Int32.ofNat (cs.length + 1)), vR vb, vI 1, vI (Int32.ofNat (cs.length + 1)), vI y]) B e37_64 ?_
    have f57 := F.2.2.2.1.keep Kh49 (Ow.ninS (by omega) Ow.nin0)
    have f58 := F.1.keep Kh49
    refine Ow.putfield (pc' := 69) (ty := .int) B e37_66 (w123 hw) Via.refl f57 f58 (Or.inl (w124 hw)) (w90 hw) (Or.inr ⟨by decide, by decide⟩) ?_
    intro h59 Wh59
    have f60 := F.2.1.keep Kh49 (Ow.ninS (by omega) Ow.nin0)
    have f61 := F.2.2.1.keep Kh49 (Ow.ninS (by omega) Ow.nin0)
    have f62 := oc.keep Kh49 (Ow.ninS (by omega) Ow.nin0)
    have Kh59 := Keep.of_wr Wh59
    have zh59 := Kh59.1
    have f63 : Fld Z h59 b "java/lang/AbstractStringBuilder" "count" "I" (.int (Int32.ofNat (cs.length + 1))) := f57.same Wh59
    have f64 : Fld Z h59 b "java/lang/AbstractStringBuilder" "value" "[B" (.ref vb) := f60.other Wh59 (Or.inr (slot_ne (a0 := a0) (C := "java/lang/StringBuilder") (t := (.array .byte)) (t' := .int) (Or.inl (w104 hw)) (Or.inl (w124 hw)) (by decide) (by decide) (by decide)))
    have f65 : Fld Z h59 b "java/lang/AbstractStringBuilder" "maybeLatin1" "Z" (.int 0) := f61.other Wh59 (Or.inr (slot_ne (a0 := a0) (C := "java/lang/StringBuilder") (t := .boolean) (t' := .int) (Or.inl (w302 hw)) (Or.inl (w124 hw)) (by decide) (by decide) (by decide)))
    have f66 : Fld Z h59 b "java/lang/AbstractStringBuilder" "coder" "B" (.int 0) := f62.other Wh59 (Or.inr (slot_ne (a0 := a0) (C := "java/lang/StringBuilder") (t := .byte) (t' := .int) (Or.inl (w106 hw)) (Or.inl (w124 hw)) (by decide) (by decide) (by decide)))
    refine Ow.aloadN (pc' := 70) B e37_69 ?_
    have f67 := V50.keep Kh59 (Ow.ninS (by omega) Ow.nin0)
    have f68 := f58.keep Kh59
    refine Ow.Go.old (fun o69 => ?_)
    refine Ow.callPrivateS (pc' := 73) (W := 0) (k' := 1) (n' := 32) (argsL := []) (rest := []) (K := "java/lang/StringBuilder") B e37_70 (w258 hw) (w259 hw) (w260 hw) (w261 hw) (w99 hw) (w262 hw) f68 (gSbi hw G GS GI (cs := (cs ++ [x])) o69 f68 f64 f65 (by rw [show ((cs ++ [x])).length = cs.length + 1 from by simp]; exact f63) f66 f67 (Ow.Rng.app F.2.2.2.2.1 (Ow.allI rx Ow.allI0)) (Ow.Lat.app ol (Ow.allI (c48) Ow.allI0)) (by first|omega|(simp;omega)|simp) (by omega)) pd22 ?_
    intro vq70 h71 S72 q70 zh71
    obtain ⟨r73, k74, rfl, Kh71, br73, f75, f76, f77, f78, f79, rfl⟩ := q70
    have lr73 : (r73 : Nat) < h71.size := f79.lt
    refine Ow.Go.norm (S' := [r73, vb]) (st' := []) (fun _ q => q) rfl ?_
    refine Ow.aloadN (pc' := 74) B e37_73 ?_
    refine Ow.getfield (pc' := 77) B e37_74 (w103 hw) Via.refl f75 ?_
    refine Ow.iload (pc' := 79) B e37_77 (Ow.aloadN (pc' := 80) B e37_79 (Ow.iload (pc' := 82) B e37_80 (Ow.iloadN (pc' := 83) B e37_82 ?_)))
    have f80 := f51.keep Kh59 (Ow.ninS (by omega) Ow.nin0)
    have f81 := f80.keep Kh71 (Ow.ninS (by omega) Ow.nin0)
    refine Ow.Go.old (fun o82 => ?_)
    refine Ow.callStatic (pc' := 86) (W := 0) (k' := 1) (n' := 32) (argsL := [(.ref r73), (.int (Int32.ofNat (cs.length + 1))), (.ref a), (.int 1), (.int 2)]) (rest := []) B e37_83 (w288 hw) (w289 hw) (w72 hw) (w290 hw) (gPcB' hw G GS GI (N := 16) (di := (cs.length + 1)) (ss := [x, y]) (ds := (cs ++ [x])) (i := 1) (e' := 2) o82 (by simp) f81 f79 (by omega) (by omega) (by decide) (by simp) (by simp) (by first|omega|(simp;omega)|simp) (by decide)) pd19 ?_
    intro vq83 h84 S85 q83 zh84
    obtain ⟨rfl, Kh84, f86, rfl⟩ := q83
    have f86 : Arv Z h84 r73 k74 .byte 32 (Ow.UB (cs ++ [x, y])) (.int 0) := by have q := f86; simpa [Ow.sl] using q
    refine Ow.Go.nr (S' := [r73, vb]) (st' := []) ?_
    refine Ow.aloadN (pc' := 87) B e37_86 (Ow.iload (pc' := 89) B e37_87 (Ow.iloadN (pc' := 90) B e37_89 ?_))
    refine Ow.iadd (pc' := 91) (z := ((Int32.ofNat (cs.length + 1)) + (2 : Int32))) B e37_90 ?_
    refine Ow.iload (pc' := 93) B e37_91 ?_
    refine Ow.isub (pc' := 94) (z := (Int32.ofNat (cs.length + 2))) (hz := (Ow.cntL (a := (cs.length + 1)) (e := 2) (i := 1) (by decide) (by omega))) B e37_93 ?_
    have f87 := f77.keep Kh84 (Ow.ninS (by omega) Ow.nin0)
    have f88 := f68.keep Kh71
    have f89 := f88.keep Kh84
    refine Ow.putfield (pc' := 97) (ty := .int) B e37_94 (w123 hw) Via.refl f87 f89 (Or.inl (w124 hw)) (w90 hw) (Or.inr ⟨by decide, by decide⟩) ?_
    intro h90 Wh90
    have f91 := f75.keep Kh84 (Ow.ninS (by omega) Ow.nin0)
    have f92 := f76.keep Kh84 (Ow.ninS (by omega) Ow.nin0)
    have f93 := f78.keep Kh84 (Ow.ninS (by omega) Ow.nin0)
    have Kh90 := Keep.of_wr Wh90
    have zh90 := Kh90.1
    have f94 : Fld Z h90 b "java/lang/AbstractStringBuilder" "count" "I" (.int (Int32.ofNat (cs.length + 2))) := f87.same Wh90
    have f95 : Fld Z h90 b "java/lang/AbstractStringBuilder" "value" "[B" (.ref r73) := f91.other Wh90 (Or.inr (slot_ne (a0 := a0) (C := "java/lang/StringBuilder") (t := (.array .byte)) (t' := .int) (Or.inl (w104 hw)) (Or.inl (w124 hw)) (by decide) (by decide) (by decide)))
    have f96 : Fld Z h90 b "java/lang/AbstractStringBuilder" "maybeLatin1" "Z" (.int 0) := f92.other Wh90 (Or.inr (slot_ne (a0 := a0) (C := "java/lang/StringBuilder") (t := .boolean) (t' := .int) (Or.inl (w302 hw)) (Or.inl (w124 hw)) (by decide) (by decide) (by decide)))
    have f97 : Fld Z h90 b "java/lang/AbstractStringBuilder" "coder" "B" (.int 1) := f93.other Wh90 (Or.inr (slot_ne (a0 := a0) (C := "java/lang/StringBuilder") (t := .byte) (t' := .int) (Or.inl (w106 hw)) (Or.inl (w124 hw)) (by decide) (by decide) (by decide)))
    have f98 := f86.keep Kh90 (Ow.ninS (by omega) Ow.nin0)
    have f99 := f89.keep Kh90
    exact Ow.retV (S' := [r73]) B e37_97 (⟨r73, k74, rfl, ((((((Keep.refl _ [b, vb]).trans Kh49 (allS (Or.inl (by simp)) all0)).trans Kh59 (allS (Or.inl (by simp)) all0)).trans Kh71 (allS (Or.inl (by simp)) all0)).trans Kh84 (allS (Or.inr (by omega)) all0)).trans Kh90 (allS (Or.inl (by simp)) all0)), Or.inr (by omega), ⟨f99, f95, f96, (by rw [show (cs ++ [x, y]).length = cs.length + 2 from by simp]; exact f94), (Ow.Rng.app F.2.2.2.2.1 (Ow.allI rx (Ow.allI ry Ow.allI0))), Or.inr ⟨f97, f98, (Ow.hiR ⟨y, by simp, c56⟩)⟩⟩, rfl⟩)
   ·obtain ⟨rfl, rfl, c100, rfl⟩ := q53
    refine Ow.Go.nr (S' := [vb]) (st' := [(.int 1)]) ?_
    refine Ow.ifF (pc' := 46) B e37_43 (by decide) ?_
    refine Ow.aload (pc' := 48) B e37_46 (Ow.iload (pc' := 50) B e37_48 ?_)
    refine Ow.iinc (pc' := 53) (y := (Int32.ofNat (cs.length + 2))) (Ls' := #[vR b, vR a, vI 0, vI 2, vI (Int32.ofNat cs.length), vR vb, vI 1, vI (Int32.ofNat (cs.length + 2)), vI y]) (hy := ((Ow.nS _)).symm) B e37_50 ?_
    refine Ow.iload (pc' := 55) B e37_53 ?_
    refine Ow.i2b (pc' := 56) (z := y.toInt8.toInt32) B e37_55 ?_
    refine Ow.bastore (pc' := 57) (i := (cs ++ [x]).length) B e37_56 (V50.pad (Ow.pad1 _ _)) ⟨(by rw [show ((Int32.ofNat (cs.length + 1))) = Int32.ofNat (cs ++ [x]).length from by simp]; exact Ow.nn (by first|omega|(simp;omega)|simp)), (by rw [show ((Int32.ofNat (cs.length + 1))) = Int32.ofNat (cs ++ [x]).length from by simp]; exact Ow.nlT (n := 16) (by first|omega|(simp;omega)|simp))⟩ (by simp) ?_ (hlt := by simp) (hi := (by rw [show ((Int32.ofNat (cs.length + 1))) = Int32.ofNat (cs ++ [x]).length from by simp]; exact Ow.nc (by first|omega|(simp;omega)|simp)))
    intro h101 Kh101 V102
    have zh101 := Kh101.1
    rw [Ow.nar_b, Ow.LBs] at V102
    have f103 : Arv Z h101 vb kv .byte 16 (Ow.LB (cs ++ [x, y])) (.int 0) := by have q := V102; rwa [List.append_assoc] at q
    refine Ow.goto (pc' := 98) B e37_57 ?_
    refine Ow.iinc (pc' := 101) (y := 2) (Ls' := #[vR b, vR a, vI 0, vI 2, vI (Int32.ofNat cs.length), vR vb, vI 2, vI (Int32.ofNat (cs.length + 2)), vI y]) B e37_98 ?_
    refine Ow.goto (pc' := 26) B e37_101 ?_
    refine Ow.iload (pc' := 28) B e37_26 (Ow.iloadN (pc' := 29) B e37_28 ?_)
    refine Ow.icmpT (pc' := 104) B e37_29 (by decide) ?_
    refine Ow.goto (pc' := 119) B e37_104 ?_
    refine Ow.aloadN (pc' := 120) B e37_119 (Ow.iload (pc' := 122) B e37_120 (Ow.iloadN (pc' := 123) B e37_122 ?_))
    refine Ow.iadd (pc' := 124) (z := ((Int32.ofNat cs.length) + (2 : Int32))) B e37_123 ?_
    refine Ow.iloadN (pc' := 125) B e37_124 ?_
    refine Ow.isub (pc' := 126) (z := (Int32.ofNat (cs.length + 2))) (hz := (Ow.cntL (a := cs.length) (e := 2) (i := 0) (by decide) (by omega))) B e37_125 ?_
    have f104 := F.2.2.2.1.keep Kh49 (Ow.ninS (by omega) Ow.nin0)
    have f105 := f104.keep Kh101 (Ow.ninS (by omega) Ow.nin0)
    have f106 := F.1.keep Kh49
    have f107 := f106.keep Kh101
    refine Ow.putfield (pc' := 129) (ty := .int) B e37_126 (w123 hw) Via.refl f105 f107 (Or.inl (w124 hw)) (w90 hw) (Or.inr ⟨by decide, by decide⟩) ?_
    intro h108 Wh108
    have f109 := F.2.1.keep Kh49 (Ow.ninS (by omega) Ow.nin0)
    have f110 := f109.keep Kh101 (Ow.ninS (by omega) Ow.nin0)
    have f111 := F.2.2.1.keep Kh49 (Ow.ninS (by omega) Ow.nin0)
    have f112 := f111.keep Kh101 (Ow.ninS (by omega) Ow.nin0)
    have f113 := oc.keep Kh49 (Ow.ninS (by omega) Ow.nin0)
    have f114 := f113.keep Kh101 (Ow.ninS (by omega) Ow.nin0)
    have Kh108 := Keep.of_wr Wh108
    have zh108 := Kh108.1
    have f115 : Fld Z h108 b "java/lang/AbstractStringBuilder" "count" "I" (.int (Int32.ofNat (cs.length + 2))) := f105.same Wh108
    have f116 : Fld Z h108 b "java/lang/AbstractStringBuilder" "value" "[B" (.ref vb) := f110.other Wh108 (Or.inr (slot_ne (a0 := a0) (C := "java/lang/StringBuilder") (t := (.array .byte)) (t' := .int) (Or.inl (w104 hw)) (Or.inl (w124 hw)) (by decide) (by decide) (by decide)))
    have f117 : Fld Z h108 b "java/lang/AbstractStringBuilder" "maybeLatin1" "Z" (.int 0) := f112.other Wh108 (Or.inr (slot_ne (a0 := a0) (C := "java/lang/StringBuilder") (t := .boolean) (t' := .int) (Or.inl (w302 hw)) (Or.inl (w124 hw)) (by decide) (by decide) (by decide)))
    have f118 : Fld Z h108 b "java/lang/AbstractStringBuilder" "coder" "B" (.int 0) := f114.other Wh108 (Or.inr (slot_ne (a0 := a0) (C := "java/lang/StringBuilder") (t := .byte) (t' := .int) (Or.inl (w106 hw)) (Or.inl (w124 hw)) (by decide) (by decide) (by decide)))
    have f119 := f103.keep Kh108 (Ow.ninS (by omega) Ow.nin0)
    have f120 := f107.keep Kh108
    exact Ow.retV (S' := [vb]) B e37_129 (⟨vb, kv, rfl, ((((Keep.refl _ [b, vb]).trans Kh49 (allS (Or.inl (by simp)) all0)).trans Kh101 (allS (Or.inl (by simp)) all0)).trans Kh108 (allS (Or.inl (by simp)) all0)), Or.inl rfl, ⟨f120, f116, f117, (by rw [show (cs ++ [x, y]).length = cs.length + 2 from by simp]; exact f115), (Ow.Rng.app F.2.2.2.2.1 (Ow.allI rx (Ow.allI ry Ow.allI0))), Or.inl ⟨f118, f119, (Ow.Lat.app ol (Ow.allI (c48) (Ow.allI (c100) Ow.allI0)))⟩⟩, rfl⟩)
 ·refine Ow.Con.enter (Ls := #[vR b, vR a, vI 0, vI 2, .unset, .unset, .unset, .unset, .unset]) (plainFor_of_name pn4) O0 (hEW hw) (hSA hw) ?_
  intro p e s m below meth c B
  have z0 := Ow.old_le O0
  have lb : (b : Nat) < h0.size := F.lt
  have lvb : (vb : Nat) < h0.size := F.ltt
  have laa : (a : Nat) < h0.size := A.lt
  refine Ow.aloadN (pc' := 1) B e37_0 ?_
  refine Ow.getfield (pc' := 4) B e37_1 (w123 hw) Via.refl F.2.2.2.1 ?_
  refine Ow.istore (pc' := 6) (Ls' := #[vR b, vR a, vI 0, vI 2, vI (Int32.ofNat cs.length), .unset, .unset, .unset, .unset]) B e37_4 ?_
  refine Ow.aloadN (pc' := 7) B e37_6 ?_
  refine Ow.Go.old (fun o1 => ?_)
  refine Ow.callVirtual (pc' := 10) (W := 0) (k' := 0) (n' := 0) (argsL := []) (rest := []) (K := "java/lang/StringBuilder") B e37_7 (w135 hw) (w136 hw) (w138 hw) (w138 hw) (w137 hw) (w99 hw) (w139 hw) F.1 (con_isLatin1_13 hw G GS GI (pa0 := b) o1 oc (by omega)) pd13 ?_
  intro vq2 h3 S4 q2 zh3
  obtain ⟨rfl, rfl, rfl⟩ := q2
  refine Ow.Go.nr (S' := [vb]) (st' := [(.int 0)]) ?_
  refine Ow.ifT (pc' := 107) B e37_10 (by decide) ?_
  refine Ow.aloadN (pc' := 108) B e37_107 ?_
  refine Ow.getfield (pc' := 111) B e37_108 (w103 hw) Via.refl F.2.1 ?_
  refine Ow.iload (pc' := 113) B e37_111 (Ow.aloadN (pc' := 114) B e37_113 (Ow.iloadN (pc' := 115) B e37_114 (Ow.iloadN (pc' := 116) B e37_115 ?_)))
  refine Ow.Go.old (fun o5 => ?_)
  refine Ow.callStatic (pc' := 119) (W := 0) (k' := 0) (n' := 0) (argsL := [(.ref vb), (.int (Int32.ofNat cs.length)), (.ref a), (.int 0), (.int 2)]) (rest := []) B e37_116 (w288 hw) (w289 hw) (w72 hw) (w290 hw) (gPcB' hw G GS GI (N := 16) (di := cs.length) (ss := [x, y]) (ds := cs) (i := 0) (e' := 2) o5 (by simp) A oa (by omega) (by omega) (by decide) (by simp) (by simp) (by first|omega|(simp;omega)|simp) (by decide)) pd19 ?_
  intro vq6 h7 S8 q6 zh7
  obtain ⟨rfl, Kh7, f9, rfl⟩ := q6
  have f9 : Arv Z h7 vb kv .byte 32 (Ow.UB (cs ++ [x, y])) (.int 0) := by have q := f9; simpa [Ow.sl] using q
  refine Ow.Go.nr (S' := [vb]) (st' := []) ?_
  refine Ow.aloadN (pc' := 120) B e37_119 (Ow.iload (pc' := 122) B e37_120 (Ow.iloadN (pc' := 123) B e37_122 ?_))
  refine Ow.iadd (pc' := 124) (z := ((Int32.ofNat cs.length) + (2 : Int32))) B e37_123 ?_
  refine Ow.iloadN (pc' := 125) B e37_124 ?_
  refine Ow.isub (pc' := 126) (z := (Int32.ofNat (cs.length + 2))) (hz := (Ow.cntL (a := cs.length) (e := 2) (i := 0) (by decide) (by omega))) B e37_125 ?_
  have f10 := F.2.2.2.1.keep Kh7 (Ow.ninS (by omega) Ow.nin0)
  have f11 := F.1.keep Kh7
  refine Ow.putfield (pc' := 129) (ty := .int) B e37_126 (w123 hw) Via.refl f10 f11 (Or.inl (w124 hw)) (w90 hw) (Or.inr ⟨by decide, by decide⟩) ?_
  intro h12 Wh12
  have f13 := F.2.1.keep Kh7 (Ow.ninS (by omega) Ow.nin0)
  have f14 := F.2.2.1.keep Kh7 (Ow.ninS (by omega) Ow.nin0)
  have f15 := oc.keep Kh7 (Ow.ninS (by omega) Ow.nin0)
  have Kh12 := Keep.of_wr Wh12
  have zh12 := Kh12.1
  have f16 : Fld Z h12 b "java/lang/AbstractStringBuilder" "count" "I" (.int (Int32.ofNat (cs.length + 2))) := f10.same Wh12
  have f17 : Fld Z h12 b "java/lang/AbstractStringBuilder" "value" "[B" (.ref vb) := f13.other Wh12 (Or.inr (slot_ne (a0 := a0) (C := "java/lang/StringBuilder") (t := (.array .byte)) (t' := .int) (Or.inl (w104 hw)) (Or.inl (w124 hw)) (by decide) (by decide) (by decide)))
  have f18 : Fld Z h12 b "java/lang/AbstractStringBuilder" "maybeLatin1" "Z" (.int 0) := f14.other Wh12 (Or.inr (slot_ne (a0 := a0) (C := "java/lang/StringBuilder") (t := .boolean) (t' := .int) (Or.inl (w302 hw)) (Or.inl (w124 hw)) (by decide) (by decide) (by decide)))
  have f19 : Fld Z h12 b "java/lang/AbstractStringBuilder" "coder" "B" (.int 1) := f15.other Wh12 (Or.inr (slot_ne (a0 := a0) (C := "java/lang/StringBuilder") (t := .byte) (t' := .int) (Or.inl (w106 hw)) (Or.inl (w124 hw)) (by decide) (by decide) (by decide)))
  have f20 := f9.keep Kh12 (Ow.ninS (by omega) Ow.nin0)
  have f21 := f11.keep Kh12
  exact Ow.retV (S' := [vb]) B e37_129 (⟨vb, kv, rfl, (((Keep.refl _ [b, vb]).trans Kh7 (allS (Or.inl (by simp)) all0)).trans Kh12 (allS (Or.inl (by simp)) all0)), Or.inl rfl, ⟨f21, f17, f18, (by rw [show (cs ++ [x, y]).length = cs.length + 2 from by simp]; exact f16), (Ow.Rng.app F.2.2.2.2.1 (Ow.allI rx (Ow.allI ry Ow.allI0))), Or.inr ⟨f19, f20, (Ow.hiL ou)⟩⟩, rfl⟩)
theorem gAch01 (hw : Hw a0 Z) (G : Ow.Glo Z cz sf) (GS : GlS Z) {iof : Value} (GI : Sta Z Z.heap "jdk/internal/util/Preconditions" "IOOBE_FORMATTER" "Ljava/util/function/BiFunction;" iof ∧ iof.isRef = true) {h0 : Heap} (O0 : Old Z n0 h0) {b vb : Nat} {kv : ClassId} {cs : List Int32} (F : Sbd Z h0 b vb kv cs) (hb : n0 ≤ b) (hv : n0 ≤ vb) (hne : b ≠ vb) {a : Nat} {ka : ClassId} {x y : Int32} (A : Arv Z h0 a ka .char 2 [(.int x), (.int y)] (.int 0)) (rx : ¬ x < (0 : Int32) ∧ ¬ (65535 : Int32) < x) (ry : ¬ y < (0 : Int32) ∧ ¬ (65535 : Int32) < y) (ha1 : a ≠ b) (ha2 : a ≠ vb) (hc : cs.length + 2 ≤ 16) :
    Ow.Con l Z EL1 n0 my37 jdk_68_method_74_code 9 (Option.none : Option Jvm.ClassFile.FieldType) [] ({ frames := 6, cells := 1, slots := 32, locals := 89 } : Room) #[(.ref b), (.ref a), (.int 0), (.int 1)] [vb] h0 (fun v h S' => ∃ v' : Nat, ∃ kr : ClassId, v = none ∧ Keep h0 h [b, vb] ∧ (v' = vb ∨ h0.size ≤ v') ∧ Sbd Z h b v' kr (cs ++ [x]) ∧ S' = [v']) := by
 rcases F.2.2.2.2.2 with ⟨oc, oa, ol⟩ | ⟨oc, oa, ou⟩
 ·refine Ow.Con.enter (Ls := #[vR b, vR a, vI 0, vI 1, .unset, .unset, .unset, .unset, .unset]) (plainFor_of_name pn4) O0 (hEW hw) (hSA hw) ?_
  intro p e s m below meth c B
  have z0 := Ow.old_le O0
  have lb : (b : Nat) < h0.size := F.lt
  have lvb : (vb : Nat) < h0.size := F.ltt
  have laa : (a : Nat) < h0.size := A.lt
  refine Ow.aloadN (pc' := 1) B e37_0 ?_
  refine Ow.getfield (pc' := 4) B e37_1 (w123 hw) Via.refl F.2.2.2.1 ?_
  refine Ow.istore (pc' := 6) (Ls' := #[vR b, vR a, vI 0, vI 1, vI (Int32.ofNat cs.length), .unset, .unset, .unset, .unset]) B e37_4 ?_
  refine Ow.aloadN (pc' := 7) B e37_6 ?_
  refine Ow.Go.old (fun o1 => ?_)
  refine Ow.callVirtual (pc' := 10) (W := 0) (k' := 0) (n' := 0) (argsL := []) (rest := []) (K := "java/lang/StringBuilder") B e37_7 (w135 hw) (w136 hw) (w138 hw) (w138 hw) (w137 hw) (w99 hw) (w139 hw) F.1 (con_isLatin1_11 hw G GS GI (pa0 := b) o1 oc (by omega)) pd13 ?_
  intro vq2 h3 S4 q2 zh3
  obtain ⟨rfl, rfl, rfl⟩ := q2
  refine Ow.Go.nr (S' := [vb]) (st' := [(.int 1)]) ?_
  refine Ow.ifF (pc' := 13) B e37_10 (by decide) ?_
  refine Ow.aloadN (pc' := 14) B e37_13 ?_
  refine Ow.getfield (pc' := 17) B e37_14 (w103 hw) Via.refl F.2.1 ?_
  refine Ow.astore (pc' := 19) (Ls' := #[vR b, vR a, vI 0, vI 1, vI (Int32.ofNat cs.length), vR vb, .unset, .unset, .unset]) B e37_17 ?_
  refine Ow.iloadN (pc' := 20) B e37_19 ?_
  refine Ow.istore (pc' := 22) (Ls' := #[vR b, vR a, vI 0, vI 1, vI (Int32.ofNat cs.length), vR vb, vI 0, .unset, .unset]) B e37_20 ?_
  refine Ow.iload (pc' := 24) B e37_22 ?_
  refine Ow.istore (pc' := 26) (Ls' := #[vR b, vR a, vI 0, vI 1, vI (Int32.ofNat cs.length), vR vb, vI 0, vI (Int32.ofNat cs.length), .unset]) B e37_24 ?_
  refine Ow.iload (pc' := 28) B e37_26 (Ow.iloadN (pc' := 29) B e37_28 ?_)
  refine Ow.icmpF (pc' := 32) B e37_29 (by decide) ?_
  refine Ow.aloadN (pc' := 33) B e37_32 (Ow.iload (pc' := 35) B e37_33 ?_)
  refine Ow.caload (pc' := 36) B e37_35 A ⟨by decide, by decide⟩ rfl ?_
  refine Ow.istore (pc' := 38) (Ls' := #[vR b, vR a, vI 0, vI 1, vI (Int32.ofNat cs.length), vR vb, vI 0, vI (Int32.ofNat cs.length), vI x]) B e37_36 ?_
  refine Ow.iload (pc' := 40) B e37_38 ?_
  refine Ow.Go.old (fun o5 => ?_)
  refine Ow.callStatic (pc' := 43) (W := 0) (k' := 0) (n' := 0) (argsL := [(.int x)]) (rest := []) B e37_40 (w140 hw) (w141 hw) (w142 hw) (w143 hw) (con_canEncode_12 hw G GS GI (px0 := x) o5) pd21 ?_
  intro vq6 h7 S8 q6 zh7
  rcases q6 with q6 | q6
  ·obtain ⟨rfl, rfl, c9, rfl⟩ := q6
   refine Ow.Go.nr (S' := [vb]) (st' := [(.int 0)]) ?_
   refine Ow.ifT (pc' := 60) B e37_43 (by decide) ?_
   refine Ow.aloadN (pc' := 61) B e37_60 (Ow.iload (pc' := 63) B e37_61 ?_)
   refine Ow.dup (pc' := 64) B e37_63 ?_
   refine Ow.istore (pc' := 66) (Ls' := #[vR b, vR a, vI 0, vI 1, vI (Int32.ofNat cs.length), vR vb, vI 0, vI (Int32.ofNat cs.length), vI x]) B e37_64 ?_
   refine Ow.putfield (pc' := 69) (ty := .int) B e37_66 (w123 hw) Via.refl F.2.2.2.1 F.1 (Or.inl (w124 hw)) (w90 hw) (Or.inr ⟨by decide, by decide⟩) ?_
   intro h10 Wh10
   have Kh10 := Keep.of_wr Wh10
   have zh10 := Kh10.1
   have f11 : Fld Z h10 b "java/lang/AbstractStringBuilder" "count" "I" (.int (Int32.ofNat cs.length)) := F.2.2.2.1.same Wh10
   have f12 : Fld Z h10 b "java/lang/AbstractStringBuilder" "value" "[B" (.ref vb) := F.2.1.other Wh10 (Or.inr (slot_ne (a0 := a0) (C := "java/lang/StringBuilder") (t := (.array .byte)) (t' := .int) (Or.inl (w104 hw)) (Or.inl (w124 hw)) (by decide) (by decide) (by decide)))
   have f13 : Fld Z h10 b "java/lang/AbstractStringBuilder" "maybeLatin1" "Z" (.int 0) := F.2.2.1.other Wh10 (Or.inr (slot_ne (a0 := a0) (C := "java/lang/StringBuilder") (t := .boolean) (t' := .int) (Or.inl (w302 hw)) (Or.inl (w124 hw)) (by decide) (by decide) (by decide)))
   have f14 : Fld Z h10 b "java/lang/AbstractStringBuilder" "coder" "B" (.int 0) := oc.other Wh10 (Or.inr (slot_ne (a0 := a0) (C := "java/lang/StringBuilder") (t := .byte) (t' := .int) (Or.inl (w106 hw)) (Or.inl (w124 hw)) (by decide) (by decide) (by decide)))
   refine Ow.aloadN (pc' := 70) B e37_69 ?_
   have f15 := oa.keep Kh10 (Ow.ninS (by omega) Ow.nin0)
   have f16 := F.1.keep Kh10
   refine Ow.Go.old (fun o17 => ?_)
   refine Ow.callPrivateS (pc' := 73) (W := 0) (k' := 1) (n' := 32) (argsL := []) (rest := []) (K := "java/lang/StringBuilder") B e37_70 (w258 hw) (w259 hw) (w260 hw) (w261 hw) (w99 hw) (w262 hw) f16 (gSbi hw G GS GI (cs := cs) o17 f16 f12 f13 f11 f14 f15 (F.2.2.2.2.1) (ol) (by first|omega|(simp;omega)|simp) (by omega)) pd22 ?_
   intro vq18 h19 S20 q18 zh19
   obtain ⟨r21, k22, rfl, Kh19, br21, f23, f24, f25, f26, f27, rfl⟩ := q18
   have lr21 : (r21 : Nat) < h19.size := f27.lt
   refine Ow.Go.norm (S' := [r21, vb]) (st' := []) (fun _ q => q) rfl ?_
   refine Ow.aloadN (pc' := 74) B e37_73 ?_
   refine Ow.getfield (pc' := 77) B e37_74 (w103 hw) Via.refl f23 ?_
   refine Ow.iload (pc' := 79) B e37_77 (Ow.aloadN (pc' := 80) B e37_79 (Ow.iload (pc' := 82) B e37_80 (Ow.iloadN (pc' := 83) B e37_82 ?_)))
   have f28 := A.keep Kh10 (Ow.ninS (by omega) Ow.nin0)
   have f29 := f28.keep Kh19 (Ow.ninS (by omega) Ow.nin0)
   refine Ow.Go.old (fun o30 => ?_)
   refine Ow.callStatic (pc' := 86) (W := 0) (k' := 1) (n' := 32) (argsL := [(.ref r21), (.int (Int32.ofNat cs.length)), (.ref a), (.int 0), (.int 1)]) (rest := []) B e37_83 (w288 hw) (w289 hw) (w72 hw) (w290 hw) (gPcB' hw G GS GI (N := 16) (di := cs.length) (ss := [x, y]) (ds := cs) (i := 0) (e' := 1) o30 (by simp) f29 f27 (by omega) (by omega) (by decide) (by simp) (by simp) (by first|omega|(simp;omega)|simp) (by decide)) pd19 ?_
   intro vq31 h32 S33 q31 zh32
   obtain ⟨rfl, Kh32, f34, rfl⟩ := q31
   have f34 : Arv Z h32 r21 k22 .byte 32 (Ow.UB (cs ++ [x])) (.int 0) := by have q := f34; simpa [Ow.sl] using q
   refine Ow.Go.nr (S' := [r21, vb]) (st' := []) ?_
   refine Ow.aloadN (pc' := 87) B e37_86 (Ow.iload (pc' := 89) B e37_87 (Ow.iloadN (pc' := 90) B e37_89 ?_))
   refine Ow.iadd (pc' := 91) (z := ((Int32.ofNat cs.length) + (1 : Int32))) B e37_90 ?_
   refine Ow.iload (pc' := 93) B e37_91 ?_
   refine Ow.isub (pc' := 94) (z := (Int32.ofNat (cs.length + 1))) (hz := (Ow.cntL (a := cs.length) (e := 1) (i := 0) (by decide) (by omega))) B e37_93 ?_
   have f35 := f25.keep Kh32 (Ow.ninS (by omega) Ow.nin0)
   have f36 := f16.keep Kh19
   have f37 := f36.keep Kh32
   refine Ow.putfield (pc' := 97) (ty := .int) B e37_94 (w123 hw) Via.refl f35 f37 (Or.inl (w124 hw)) (w90 hw) (Or.inr ⟨by decide, by decide⟩) ?_
   intro h38 Wh38
   have f39 := f23.keep Kh32 (Ow.ninS (by omega) Ow.nin0)
   have f40 := f24.keep Kh32 (Ow.ninS (by omega) Ow.nin0)
   have f41 := f26.keep Kh32 (Ow.ninS (by omega) Ow.nin0)
   have Kh38 := Keep.of_wr Wh38
   have zh38 := Kh38.1
   have f42 : Fld Z h38 b "java/lang/AbstractStringBuilder" "count" "I" (.int (Int32.ofNat (cs.length + 1))) := f35.same Wh38
   have f43 : Fld Z h38 b "java/lang/AbstractStringBuilder" "value" "[B" (.ref r21) := f39.other Wh38 (Or.inr (slot_ne (a0 := a0) (C := "java/lang/StringBuilder") (t := (.array .byte)) (t' := .int) (Or.inl (w104 hw)) (Or.inl (w124 hw)) (by decide) (by decide) (by decide)))
   have f44 : Fld Z h38 b "java/lang/AbstractStringBuilder" "maybeLatin1" "Z" (.int 0) := f40.other Wh38 (Or.inr (slot_ne (a0 := a0) (C := "java/lang/StringBuilder") (t := .boolean) (t' := .int) (Or.inl (w302 hw)) (Or.inl (w124 hw)) (by decide) (by decide) (by decide)))
   have f45 : Fld Z h38 b "java/lang/AbstractStringBuilder" "coder" "B" (.int 1) := f41.other Wh38 (Or.inr (slot_ne (a0 := a0) (C := "java/lang/StringBuilder") (t := .byte) (t' := .int) (Or.inl (w106 hw)) (Or.inl (w124 hw)) (by decide) (by decide) (by decide)))
   have f46 := f34.keep Kh38 (Ow.ninS (by omega) Ow.nin0)
   have f47 := f37.keep Kh38
   exact Ow.retV (S' := [r21]) B e37_97 (⟨r21, k22, rfl, (((((Keep.refl _ [b, vb]).trans Kh10 (allS (Or.inl (by simp)) all0)).trans Kh19 (allS (Or.inl (by simp)) all0)).trans Kh32 (allS (Or.inr (by omega)) all0)).trans Kh38 (allS (Or.inl (by simp)) all0)), Or.inr (by omega), ⟨f47, f43, f44, (by rw [show (cs ++ [x]).length = cs.length + 1 from by simp]; exact f42), (Ow.Rng.app F.2.2.2.2.1 (Ow.allI rx Ow.allI0)), Or.inr ⟨f45, f46, (Ow.hiR ⟨x, by simp, c9⟩)⟩⟩, rfl⟩)
  ·obtain ⟨rfl, rfl, c48, rfl⟩ := q6
   refine Ow.Go.nr (S' := [vb]) (st' := [(.int 1)]) ?_
   refine Ow.ifF (pc' := 46) B e37_43 (by decide) ?_
   refine Ow.aload (pc' := 48) B e37_46 (Ow.iload (pc' := 50) B e37_48 ?_)
   refine Ow.iinc (pc' := 53) (y := (Int32.ofNat (cs.length + 1))) (Ls' := #[vR b, vR a, vI 0, vI 1, vI (Int32.ofNat cs.length), vR vb, vI 0, vI (Int32.ofNat (cs.length + 1)), vI x]) (hy := ((Ow.nS _)).symm) B e37_50 ?_
   refine Ow.iload (pc' := 55) B e37_53 ?_
   refine Ow.i2b (pc' := 56) (z := x.toInt8.toInt32) B e37_55 ?_
   refine Ow.bastore (pc' := 57) (i := (cs).length) B e37_56 (oa.pad (Ow.pad1 _ _)) ⟨(by rw [show ((Int32.ofNat cs.length)) = Int32.ofNat (cs).length from by simp]; exact Ow.nn (by first|omega|(simp;omega)|simp)), (by rw [show ((Int32.ofNat cs.length)) = Int32.ofNat (cs).length from by simp]; exact Ow.nlT (n := 16) (by first|omega|(simp;omega)|simp))⟩ (by simp) ?_ (hlt := by simp) (hi := (by rw [show ((Int32.ofNat cs.length)) = Int32.ofNat (cs).length from by simp]; exact Ow.nc (by first|omega|(simp;omega)|simp)))
   intro h49 Kh49 V50
   have zh49 := Kh49.1
   rw [Ow.nar_b, Ow.LBs] at V50
   refine Ow.goto (pc' := 98) B e37_57 ?_
   refine Ow.iinc (pc' := 101) (y := 1) (Ls' := #[vR b, vR a, vI 0, vI 1, vI (Int32.ofNat cs.length), vR vb, vI 1, vI (Int32.ofNat (cs.length + 1)), vI x]) B e37_98 ?_
   refine Ow.goto (pc' := 26) B e37_101 ?_
   refine Ow.iload (pc' := 28) B e37_26 (Ow.iloadN (pc' := 29) B e37_28 ?_)
   refine Ow.icmpT (pc' := 104) B e37_29 (by decide) ?_
   refine Ow.goto (pc' := 119) B e37_104 ?_
   refine Ow.aloadN (pc' := 120) B e37_119 (Ow.iload (pc' := 122) B e37_120 (Ow.iloadN (pc' := 123) B e37_122 ?_))
   refine Ow.iadd (pc' := 124) (z := ((Int32.ofNat cs.length) + (1 : Int32))) B e37_123 ?_
   refine Ow.iloadN (pc' := 125) B e37_124 ?_
   refine Ow.isub (pc' := 126) (z := (Int32.ofNat (cs.length + 1))) (hz := (Ow.cntL (a := cs.length) (e := 1) (i := 0) (by decide) (by omega))) B e37_125 ?_
   have f51 := F.2.2.2.1.keep Kh49 (Ow.ninS (by omega) Ow.nin0)
   have f52 := F.1.keep Kh49
   refine Ow.putfield (pc' := 129) (ty := .int) B e37_126 (w123 hw) Via.refl f51 f52 (Or.inl (w124 hw)) (w90 hw) (Or.inr ⟨by decide, by decide⟩) ?_
   intro h53 Wh53
   have f54 := F.2.1.keep Kh49 (Ow.ninS (by omega) Ow.nin0)
   have f55 := F.2.2.1.keep Kh49 (Ow.ninS (by omega) Ow.nin0)
   have f56 := oc.keep Kh49 (Ow.ninS (by omega) Ow.nin0)
   have Kh53 := Keep.of_wr Wh53
   have zh53 := Kh53.1
   have f57 : Fld Z h53 b "java/lang/AbstractStringBuilder" "count" "I" (.int (Int32.ofNat (cs.length + 1))) := f51.same Wh53
   have f58 : Fld Z h53 b "java/lang/AbstractStringBuilder" "value" "[B" (.ref vb) := f54.other Wh53 (Or.inr (slot_ne (a0 := a0) (C := "java/lang/StringBuilder") (t := (.array .byte)) (t' := .int) (Or.inl (w104 hw)) (Or.inl (w124 hw)) (by decide) (by decide) (by decide)))
   have f59 : Fld Z h53 b "java/lang/AbstractStringBuilder" "maybeLatin1" "Z" (.int 0) := f55.other Wh53 (Or.inr (slot_ne (a0 := a0) (C := "java/lang/StringBuilder") (t := .boolean) (t' := .int) (Or.inl (w302 hw)) (Or.inl (w124 hw)) (by decide) (by decide) (by decide)))
   have f60 : Fld Z h53 b "java/lang/AbstractStringBuilder" "coder" "B" (.int 0) := f56.other Wh53 (Or.inr (slot_ne (a0 := a0) (C := "java/lang/StringBuilder") (t := .byte) (t' := .int) (Or.inl (w106 hw)) (Or.inl (w124 hw)) (by decide) (by decide) (by decide)))
   have f61 := V50.keep Kh53 (Ow.ninS (by omega) Ow.nin0)
   have f62 := f52.keep Kh53
   exact Ow.retV (S' := [vb]) B e37_129 (⟨vb, kv, rfl, (((Keep.refl _ [b, vb]).trans Kh49 (allS (Or.inl (by simp)) all0)).trans Kh53 (allS (Or.inl (by simp)) all0)), Or.inl rfl, ⟨f62, f58, f59, (by rw [show (cs ++ [x]).length = cs.length + 1 from by simp]; exact f57), (Ow.Rng.app F.2.2.2.2.1 (Ow.allI rx Ow.allI0)), Or.inl ⟨f60, f61, (Ow.Lat.app ol (Ow.allI (c48) Ow.allI0))⟩⟩, rfl⟩)
 ·refine Ow.Con.enter (Ls := #[vR b, vR a, vI 0, vI 1, .unset, .unset, .unset, .unset, .unset]) (plainFor_of_name pn4) O0 (hEW hw) (hSA hw) ?_
  intro p e s m below meth c B
  have z0 := Ow.old_le O0
  have lb : (b : Nat) < h0.size := F.lt
  have lvb : (vb : Nat) < h0.size := F.ltt
  have laa : (a : Nat) < h0.size := A.lt
  refine Ow.aloadN (pc' := 1) B e37_0 ?_
  refine Ow.getfield (pc' := 4) B e37_1 (w123 hw) Via.refl F.2.2.2.1 ?_
  refine Ow.istore (pc' := 6) (Ls' := #[vR b, vR a, vI 0, vI 1, vI (Int32.ofNat cs.length), .unset, .unset, .unset, .unset]) B e37_4 ?_
  refine Ow.aloadN (pc' := 7) B e37_6 ?_
  refine Ow.Go.old (fun o1 => ?_)
  refine Ow.callVirtual (pc' := 10) (W := 0) (k' := 0) (n' := 0) (argsL := []) (rest := []) (K := "java/lang/StringBuilder") B e37_7 (w135 hw) (w136 hw) (w138 hw) (w138 hw) (w137 hw) (w99 hw) (w139 hw) F.1 (con_isLatin1_13 hw G GS GI (pa0 := b) o1 oc (by omega)) pd13 ?_
  intro vq2 h3 S4 q2 zh3
  obtain ⟨rfl, rfl, rfl⟩ := q2
  refine Ow.Go.nr (S' := [vb]) (st' := [(.int 0)]) ?_
  refine Ow.ifT (pc' := 107) B e37_10 (by decide) ?_
  refine Ow.aloadN (pc' := 108) B e37_107 ?_
  refine Ow.getfield (pc' := 111) B e37_108 (w103 hw) Via.refl F.2.1 ?_
  refine Ow.iload (pc' := 113) B e37_111 (Ow.aloadN (pc' := 114) B e37_113 (Ow.iloadN (pc' := 115) B e37_114 (Ow.iloadN (pc' := 116) B e37_115 ?_)))
  refine Ow.Go.old (fun o5 => ?_)
  refine Ow.callStatic (pc' := 119) (W := 0) (k' := 0) (n' := 0) (argsL := [(.ref vb), (.int (Int32.ofNat cs.length)), (.ref a), (.int 0), (.int 1)]) (rest := []) B e37_116 (w288 hw) (w289 hw) (w72 hw) (w290 hw) (gPcB' hw G GS GI (N := 16) (di := cs.length) (ss := [x, y]) (ds := cs) (i := 0) (e' := 1) o5 (by simp) A oa (by omega) (by omega) (by decide) (by simp) (by simp) (by first|omega|(simp;omega)|simp) (by decide)) pd19 ?_
  intro vq6 h7 S8 q6 zh7
  obtain ⟨rfl, Kh7, f9, rfl⟩ := q6
  have f9 : Arv Z h7 vb kv .byte 32 (Ow.UB (cs ++ [x])) (.int 0) := by have q := f9; simpa [Ow.sl] using q
  refine Ow.Go.nr (S' := [vb]) (st' := []) ?_
  refine Ow.aloadN (pc' := 120) B e37_119 (Ow.iload (pc' := 122) B e37_120 (Ow.iloadN (pc' := 123) B e37_122 ?_))
  refine Ow.iadd (pc' := 124) (z := ((Int32.ofNat cs.length) + (1 : Int32))) B e37_123 ?_
  refine Ow.iloadN (pc' := 125) B e37_124 ?_
  refine Ow.isub (pc' := 126) (z := (Int32.ofNat (cs.length + 1))) (hz := (Ow.cntL (a := cs.length) (e := 1) (i := 0) (by decide) (by omega))) B e37_125 ?_
  have f10 := F.2.2.2.1.keep Kh7 (Ow.ninS (by omega) Ow.nin0)
  have f11 := F.1.keep Kh7
  refine Ow.putfield (pc' := 129) (ty := .int) B e37_126 (w123 hw) Via.refl f10 f11 (Or.inl (w124 hw)) (w90 hw) (Or.inr ⟨by decide, by decide⟩) ?_
  intro h12 Wh12
  have f13 := F.2.1.keep Kh7 (Ow.ninS (by omega) Ow.nin0)
  have f14 := F.2.2.1.keep Kh7 (Ow.ninS (by omega) Ow.nin0)
  have f15 := oc.keep Kh7 (Ow.ninS (by omega) Ow.nin0)
  have Kh12 := Keep.of_wr Wh12
  have zh12 := Kh12.1
  have f16 : Fld Z h12 b "java/lang/AbstractStringBuilder" "count" "I" (.int (Int32.ofNat (cs.length + 1))) := f10.same Wh12
  have f17 : Fld Z h12 b "java/lang/AbstractStringBuilder" "value" "[B" (.ref vb) := f13.other Wh12 (Or.inr (slot_ne (a0 := a0) (C := "java/lang/StringBuilder") (t := (.array .byte)) (t' := .int) (Or.inl (w104 hw)) (Or.inl (w124 hw)) (by decide) (by decide) (by decide)))
  have f18 : Fld Z h12 b "java/lang/AbstractStringBuilder" "maybeLatin1" "Z" (.int 0) := f14.other Wh12 (Or.inr (slot_ne (a0 := a0) (C := "java/lang/StringBuilder") (t := .boolean) (t' := .int) (Or.inl (w302 hw)) (Or.inl (w124 hw)) (by decide) (by decide) (by decide)))
  have f19 : Fld Z h12 b "java/lang/AbstractStringBuilder" "coder" "B" (.int 1) := f15.other Wh12 (Or.inr (slot_ne (a0 := a0) (C := "java/lang/StringBuilder") (t := .byte) (t' := .int) (Or.inl (w106 hw)) (Or.inl (w124 hw)) (by decide) (by decide) (by decide)))
  have f20 := f9.keep Kh12 (Ow.ninS (by omega) Ow.nin0)
  have f21 := f11.keep Kh12
  exact Ow.retV (S' := [vb]) B e37_129 (⟨vb, kv, rfl, (((Keep.refl _ [b, vb]).trans Kh7 (allS (Or.inl (by simp)) all0)).trans Kh12 (allS (Or.inl (by simp)) all0)), Or.inl rfl, ⟨f21, f17, f18, (by rw [show (cs ++ [x]).length = cs.length + 1 from by simp]; exact f16), (Ow.Rng.app F.2.2.2.2.1 (Ow.allI rx Ow.allI0)), Or.inr ⟨f19, f20, (Ow.hiL ou)⟩⟩, rfl⟩)
theorem con_checkFromToIndex_14 (hw : Hw a0 Z) (G : Ow.Glo Z cz sf) (GS : GlS Z) {iof : Value} (GI : Sta Z Z.heap "jdk/internal/util/Preconditions" "IOOBE_FORMATTER" "Ljava/util/function/BiFunction;" iof ∧ iof.isRef = true) {pv0 : Value} {h0 : Heap} (O0 : Old Z n0 h0) (hv_pv0 : pv0.isRef = true) :
    Ow.Con l Z EL1 n0 my23 jdk_41_method_12_code 4 (Option.some Jvm.ClassFile.FieldType.int) [] ({ frames := 0, cells := 0, slots := 0, locals := 0 } : Room) #[(.int 0), (.int 0), (.int 2), pv0] [] h0 (fun v h S' => (v = some (.int 0) ∧ h = h0 ∧ S' = [])) := by
 rcases ref_cases hv_pv0 with rfl | ⟨sa_pv0, rfl⟩
 ·refine Ow.Con.enter (Ls := #[vI 0, vI 0, vI 2, .val .null]) (plainFor_of_name pn3) O0 (hEW hw) (hSA hw) ?_
  intro p e s m below meth c B
  have z0 := Ow.old_le O0
  refine Ow.iloadN (pc' := 1) B e25_0 ?_
  refine Ow.ifF (pc' := 4) B e25_1 (by decide) ?_
  refine Ow.iloadN (pc' := 5) B e25_4 (Ow.iloadN (pc' := 6) B e25_5 ?_)
  refine Ow.icmpF (pc' := 9) B e25_6 (by decide) ?_
  refine Ow.iloadN (pc' := 10) B e25_9 (Ow.iloadN (pc' := 11) B e25_10 ?_)
  refine Ow.icmpT (pc' := 22) B e25_11 (by decide) ?_
  refine Ow.iloadN (pc' := 23) B e25_22 ?_
  exact Ow.retI (S' := []) (t := .int) B e25_23 (⟨rfl, rfl, rfl⟩)
 ·refine Ow.Con.enter (Ls := #[vI 0, vI 0, vI 2, vR sa_pv0]) (plainFor_of_name pn3) O0 (hEW hw) (hSA hw) ?_
  intro p e s m below meth c B
  have z0 := Ow.old_le O0
  refine Ow.iloadN (pc' := 1) B e25_0 ?_
  refine Ow.ifF (pc' := 4) B e25_1 (by decide) ?_
  refine Ow.iloadN (pc' := 5) B e25_4 (Ow.iloadN (pc' := 6) B e25_5 ?_)
  refine Ow.icmpF (pc' := 9) B e25_6 (by decide) ?_
  refine Ow.iloadN (pc' := 10) B e25_9 (Ow.iloadN (pc' := 11) B e25_10 ?_)
  refine Ow.icmpT (pc' := 22) B e25_11 (by decide) ?_
  refine Ow.iloadN (pc' := 23) B e25_22 ?_
  exact Ow.retI (S' := []) (t := .int) B e25_23 (⟨rfl, rfl, rfl⟩)
theorem gApA00 (hw : Hw a0 Z) (G : Ow.Glo Z cz sf) (GS : GlS Z) {iof : Value} (GI : Sta Z Z.heap "jdk/internal/util/Preconditions" "IOOBE_FORMATTER" "Ljava/util/function/BiFunction;" iof ∧ iof.isRef = true) {h0 : Heap} (O0 : Old Z n0 h0) {b vb : Nat} {kv : ClassId} {cs : List Int32} (F : Sbd Z h0 b vb kv cs) (hb : n0 ≤ b) (hv : n0 ≤ vb) (hne : b ≠ vb) {a : Nat} {ka : ClassId} {x y : Int32} (A : Arv Z h0 a ka .char 2 [(.int x), (.int y)] (.int 0)) (rx : ¬ x < (0 : Int32) ∧ ¬ (65535 : Int32) < x) (ry : ¬ y < (0 : Int32) ∧ ¬ (65535 : Int32) < y) (ha1 : a ≠ b) (ha2 : a ≠ vb) (hc : cs.length + 2 ≤ 16) :
    Ow.Con l Z EL1 n0 my38 jdk_68_method_29_code 5 (Option.some (Jvm.ClassFile.FieldType.object "java/lang/AbstractStringBuilder")) [] ({ frames := 5, cells := 0, slots := 0, locals := 79 } : Room) #[(.ref b), (.ref a), (.int 0), (.int 0)] [vb] h0 (fun v h S' => ∃ v' : Nat, ∃ kr : ClassId, v = some (.ref b) ∧ Keep h0 h [b, vb] ∧ (v' = vb ∨ h0.size ≤ v') ∧ Sbd Z h b v' kr (cs) ∧ S' = [v']) := by
 refine Ow.Con.enter (Ls := #[vR b, vR a, vI 0, vI 0, .unset]) (plainFor_of_name pn4) O0 (hEW hw) (hSA hw) ?_
 intro p e s m below meth c B
 have z0 := Ow.old_le O0
 have lb : (b : Nat) < h0.size := F.lt
 have lvb : (vb : Nat) < h0.size := F.ltt
 have laa : (a : Nat) < h0.size := A.lt
 refine Ow.iloadN (pc' := 1) B e38_0 (Ow.iloadN (pc' := 2) B e38_1 ?_)
 refine Ow.iadd (pc' := 3) (z := 0) B e38_2 ?_
 refine Ow.istore (pc' := 5) (Ls' := #[vR b, vR a, vI 0, vI 0, vI 0]) B e38_3 ?_
 refine Ow.iloadN (pc' := 6) B e38_5 (Ow.iload (pc' := 8) B e38_6 (Ow.aloadN (pc' := 9) B e38_8 ?_))
 refine Ow.arrlen (pc' := 10) B e38_9 A ?_
 refine Ow.getstatic (pc' := 13) B e38_10 (w117 hw) Via.refl GI.1 ?_
 refine Ow.Go.old (fun o1 => ?_)
 refine Ow.callStatic (pc' := 16) (W := 0) (k' := 0) (n' := 0) (argsL := [(.int 0), (.int 0), (.int 2), iof]) (rest := []) B e38_13 (w120 hw) (w121 hw) (w118 hw) (w122 hw) (con_checkFromToIndex_14 hw G GS GI (pv0 := iof) o1 (GI.2)) pd14 ?_
 intro vq2 h3 S4 q2 zh3
 obtain ⟨rfl, rfl, rfl⟩ := q2
 refine Ow.Go.nr (S' := [vb]) (st' := [(.int 0)]) ?_
 refine Ow.pop (pc' := 17) B e38_16 ?_
 refine Ow.aloadN (pc' := 18) B e38_17 (Ow.aloadN (pc' := 19) B e38_18 ?_)
 refine Ow.getfield (pc' := 22) B e38_19 (w123 hw) Via.refl F.2.2.2.1 ?_
 refine Ow.iloadN (pc' := 23) B e38_22 ?_
 refine Ow.iadd (pc' := 24) (z := (Int32.ofNat (cs.length + 0))) (hz := (Ow.nadd cs.length 0)) B e38_23 ?_
 refine Ow.Go.old (fun o5 => ?_)
 refine Ow.callPrivateS (pc' := 27) (W := 0) (k' := 0) (n' := 0) (argsL := [(.int (Int32.ofNat (cs.length + 0)))]) (rest := []) (K := "java/lang/StringBuilder") B e38_24 (w125 hw) (w126 hw) (w127 hw) (w128 hw) (w99 hw) (w129 hw) (F).1 (gEns hw G GS GI (m' := (cs.length + 0)) o5 F (by omega)) pd20 ?_
 intro vq6 h7 S8 q6 zh7
 obtain ⟨rfl, rfl, rfl⟩ := q6
 refine Ow.Go.nr (S' := [vb]) (st' := []) ?_
 refine Ow.aloadN (pc' := 28) B e38_27 (Ow.aloadN (pc' := 29) B e38_28 (Ow.iloadN (pc' := 30) B e38_29 (Ow.iload (pc' := 32) B e38_30 ?_)))
 refine Ow.Go.old (fun o9 => ?_)
 refine Ow.callPrivateS (pc' := 35) (W := 0) (k' := 0) (n' := 0) (argsL := [(.ref a), (.int 0), (.int 0)]) (rest := []) (K := "java/lang/StringBuilder") B e38_32 (w130 hw) (w131 hw) (w132 hw) (w133 hw) (w99 hw) (w134 hw) (F).1 (gAch00 hw G GS GI o9 F hb hv hne A rx ry ha1 ha2 hc) pd24 ?_
 intro vq10 h11 S12 q10 zh11
 obtain ⟨t13, k14, rfl, Kh11, e16, f15, rfl⟩ := q10
 have lt13 : (t13 : Nat) < h11.size := f15.ltt
 refine Ow.Go.norm (S' := [t13, vb]) (st' := []) (fun _ q => q) rfl ?_
 refine Ow.aloadN (pc' := 36) B e38_35 ?_
 exact Ow.retA (S' := [t13]) (t := (.object "java/lang/AbstractStringBuilder")) B e38_36 (⟨t13, k14, rfl, ((Keep.refl _ [b, vb]).trans Kh11 (allS (Or.inl (by simp)) (allS (Or.inl (by simp)) all0))), (by omega), f15, rfl⟩)
theorem gAppA00 (hw : Hw a0 Z) (G : Ow.Glo Z cz sf) (GS : GlS Z) {iof : Value} (GI : Sta Z Z.heap "jdk/internal/util/Preconditions" "IOOBE_FORMATTER" "Ljava/util/function/BiFunction;" iof ∧ iof.isRef = true) {h0 : Heap} (O0 : Old Z n0 h0) {b vb : Nat} {kv : ClassId} {cs : List Int32} (F : Sbd Z h0 b vb kv cs) (hb : n0 ≤ b) (hv : n0 ≤ vb) (hne : b ≠ vb) {a : Nat} {ka : ClassId} {x y : Int32} (A : Arv Z h0 a ka .char 2 [(.int x), (.int y)] (.int 0)) (rx : ¬ x < (0 : Int32) ∧ ¬ (65535 : Int32) < x) (ry : ¬ y < (0 : Int32) ∧ ¬ (65535 : Int32) < y) (ha1 : a ≠ b) (ha2 : a ≠ vb) (hc : cs.length + 2 ≤ 16) :
    Ow.Con l Z EL1 n0 my39 jdk_67_method_12_code 4 (Option.some (Jvm.ClassFile.FieldType.object "java/lang/StringBuilder")) [] ({ frames := 6, cells := 0, slots := 0, locals := 95 } : Room) #[(.ref b), (.ref a), (.int 0), (.int 0)] [vb] h0 (fun v h S' => ∃ v' : Nat, ∃ kr : ClassId, v = some (.ref b) ∧ Keep h0 h [b, vb] ∧ (v' = vb ∨ h0.size ≤ v') ∧ Sbd Z h b v' kr (cs) ∧ S' = [v']) := by
 refine Ow.Con.enter (Ls := #[vR b, vR a, vI 0, vI 0]) (plainFor_of_name pn5) O0 (hEW hw) (hSA hw) ?_
 intro p e s m below meth c B
 have z0 := Ow.old_le O0
 have lb : (b : Nat) < h0.size := F.lt
 have lvb : (vb : Nat) < h0.size := F.ltt
 have laa : (a : Nat) < h0.size := A.lt
 refine Ow.aloadN (pc' := 1) B e39_0 (Ow.aloadN (pc' := 2) B e39_1 (Ow.iloadN (pc' := 3) B e39_2 (Ow.iloadN (pc' := 4) B e39_3 ?_)))
 refine Ow.Go.old (fun o1 => ?_)
 refine Ow.callSuper (pc' := 7) (W := 0) (k' := 0) (n' := 0) (argsL := [(.ref a), (.int 0), (.int 0)]) (rest := []) (K := "java/lang/StringBuilder") B e39_4 (w112 hw) (w113 hw) (w99 hw) (w116 hw) (w114 hw) (w128 hw) (F).1 (gApA00 hw G GS GI o1 F hb hv hne A rx ry ha1 ha2 hc) pd25 ?_
 intro vq2 h3 S4 q2 zh3
 obtain ⟨t5, k6, rfl, Kh3, e8, f7, rfl⟩ := q2
 have lt5 : (t5 : Nat) < h3.size := f7.ltt
 refine Ow.Go.norm (S' := [t5, vb]) (st' := [(.ref b)]) (fun _ q => q) rfl ?_
 refine Ow.pop (pc' := 8) B e39_7 ?_
 refine Ow.aloadN (pc' := 9) B e39_8 ?_
 exact Ow.retA (S' := [t5]) (t := (.object "java/lang/StringBuilder")) B e39_9 (⟨t5, k6, rfl, ((Keep.refl _ [b, vb]).trans Kh3 (allS (Or.inl (by simp)) (allS (Or.inl (by simp)) all0))), (by omega), f7, rfl⟩)
theorem con_checkFromToIndex_15 (hw : Hw a0 Z) (G : Ow.Glo Z cz sf) (GS : GlS Z) {iof : Value} (GI : Sta Z Z.heap "jdk/internal/util/Preconditions" "IOOBE_FORMATTER" "Ljava/util/function/BiFunction;" iof ∧ iof.isRef = true) {pv0 : Value} {h0 : Heap} (O0 : Old Z n0 h0) (hv_pv0 : pv0.isRef = true) :
    Ow.Con l Z EL1 n0 my23 jdk_41_method_12_code 4 (Option.some Jvm.ClassFile.FieldType.int) [] ({ frames := 0, cells := 0, slots := 0, locals := 0 } : Room) #[(.int 1), (.int 2), (.int 2), pv0] [] h0 (fun v h S' => (v = some (.int 1) ∧ h = h0 ∧ S' = [])) := by
 rcases ref_cases hv_pv0 with rfl | ⟨sa_pv0, rfl⟩
 ·refine Ow.Con.enter (Ls := #[vI 1, vI 2, vI 2, .val .null]) (plainFor_of_name pn3) O0 (hEW hw) (hSA hw) ?_
  intro p e s m below meth c B
  have z0 := Ow.old_le O0
  refine Ow.iloadN (pc' := 1) B e25_0 ?_
  refine Ow.ifF (pc' := 4) B e25_1 (by decide) ?_
  refine Ow.iloadN (pc' := 5) B e25_4 (Ow.iloadN (pc' := 6) B e25_5 ?_)
  refine Ow.icmpF (pc' := 9) B e25_6 (by decide) ?_
  refine Ow.iloadN (pc' := 10) B e25_9 (Ow.iloadN (pc' := 11) B e25_10 ?_)
  refine Ow.icmpT (pc' := 22) B e25_11 (by decide) ?_
  refine Ow.iloadN (pc' := 23) B e25_22 ?_
  exact Ow.retI (S' := []) (t := .int) B e25_23 (⟨rfl, rfl, rfl⟩)
 ·refine Ow.Con.enter (Ls := #[vI 1, vI 2, vI 2, vR sa_pv0]) (plainFor_of_name pn3) O0 (hEW hw) (hSA hw) ?_
  intro p e s m below meth c B
  have z0 := Ow.old_le O0
  refine Ow.iloadN (pc' := 1) B e25_0 ?_
  refine Ow.ifF (pc' := 4) B e25_1 (by decide) ?_
  refine Ow.iloadN (pc' := 5) B e25_4 (Ow.iloadN (pc' := 6) B e25_5 ?_)
  refine Ow.icmpF (pc' := 9) B e25_6 (by decide) ?_
  refine Ow.iloadN (pc' := 10) B e25_9 (Ow.iloadN (pc' := 11) B e25_10 ?_)
  refine Ow.icmpT (pc' := 22) B e25_11 (by decide) ?_
  refine Ow.iloadN (pc' := 23) B e25_22 ?_
  exact Ow.retI (S' := []) (t := .int) B e25_23 (⟨rfl, rfl, rfl⟩)
theorem gApA12 (hw : Hw a0 Z) (G : Ow.Glo Z cz sf) (GS : GlS Z) {iof : Value} (GI : Sta Z Z.heap "jdk/internal/util/Preconditions" "IOOBE_FORMATTER" "Ljava/util/function/BiFunction;" iof ∧ iof.isRef = true) {h0 : Heap} (O0 : Old Z n0 h0) {b vb : Nat} {kv : ClassId} {cs : List Int32} (F : Sbd Z h0 b vb kv cs) (hb : n0 ≤ b) (hv : n0 ≤ vb) (hne : b ≠ vb) {a : Nat} {ka : ClassId} {x y : Int32} (A : Arv Z h0 a ka .char 2 [(.int x), (.int y)] (.int 0)) (rx : ¬ x < (0 : Int32) ∧ ¬ (65535 : Int32) < x) (ry : ¬ y < (0 : Int32) ∧ ¬ (65535 : Int32) < y) (ha1 : a ≠ b) (ha2 : a ≠ vb) (hc : cs.length + 2 ≤ 16) :
    Ow.Con l Z EL1 n0 my38 jdk_68_method_29_code 5 (Option.some (Jvm.ClassFile.FieldType.object "java/lang/AbstractStringBuilder")) [] ({ frames := 7, cells := 1, slots := 32, locals := 109 } : Room) #[(.ref b), (.ref a), (.int 1), (.int 1)] [vb] h0 (fun v h S' => ∃ v' : Nat, ∃ kr : ClassId, v = some (.ref b) ∧ Keep h0 h [b, vb] ∧ (v' = vb ∨ h0.size ≤ v') ∧ Sbd Z h b v' kr (cs ++ [y]) ∧ S' = [v']) := by
 refine Ow.Con.enter (Ls := #[vR b, vR a, vI 1, vI 1, .unset]) (plainFor_of_name pn4) O0 (hEW hw) (hSA hw) ?_
 intro p e s m below meth c B
 have z0 := Ow.old_le O0
 have lb : (b : Nat) < h0.size := F.lt
 have lvb : (vb : Nat) < h0.size := F.ltt
 have laa : (a : Nat) < h0.size := A.lt
 refine Ow.iloadN (pc' := 1) B e38_0 (Ow.iloadN (pc' := 2) B e38_1 ?_)
 refine Ow.iadd (pc' := 3) (z := 2) B e38_2 ?_
 refine Ow.istore (pc' := 5) (Ls' := #[vR b, vR a, vI 1, vI 1, vI 2]) B e38_3 ?_
 refine Ow.iloadN (pc' := 6) B e38_5 (Ow.iload (pc' := 8) B e38_6 (Ow.aloadN (pc' := 9) B e38_8 ?_))
 refine Ow.arrlen (pc' := 10) B e38_9 A ?_
 refine Ow.getstatic (pc' := 13) B e38_10 (w117 hw) Via.refl GI.1 ?_
 refine Ow.Go.old (fun o1 => ?_)
 refine Ow.callStatic (pc' := 16) (W := 0) (k' := 0) (n' := 0) (argsL := [(.int 1), (.int 2), (.int 2), iof]) (rest := []) B e38_13 (w120 hw) (w121 hw) (w118 hw) (w122 hw) (con_checkFromToIndex_15 hw G GS GI (pv0 := iof) o1 (GI.2)) pd14 ?_
 intro vq2 h3 S4 q2 zh3
 obtain ⟨rfl, rfl, rfl⟩ := q2
 refine Ow.Go.nr (S' := [vb]) (st' := [(.int 1)]) ?_
 refine Ow.pop (pc' := 17) B e38_16 ?_
 refine Ow.aloadN (pc' := 18) B e38_17 (Ow.aloadN (pc' := 19) B e38_18 ?_)
 refine Ow.getfield (pc' := 22) B e38_19 (w123 hw) Via.refl F.2.2.2.1 ?_
 refine Ow.iloadN (pc' := 23) B e38_22 ?_
 refine Ow.iadd (pc' := 24) (z := (Int32.ofNat (cs.length + 1))) (hz := (Ow.nadd cs.length 1)) B e38_23 ?_
 refine Ow.Go.old (fun o5 => ?_)
 refine Ow.callPrivateS (pc' := 27) (W := 0) (k' := 0) (n' := 0) (argsL := [(.int (Int32.ofNat (cs.length + 1)))]) (rest := []) (K := "java/lang/StringBuilder") B e38_24 (w125 hw) (w126 hw) (w127 hw) (w128 hw) (w99 hw) (w129 hw) (F).1 (gEns hw G GS GI (m' := (cs.length + 1)) o5 F (by omega)) pd20 ?_
 intro vq6 h7 S8 q6 zh7
 obtain ⟨rfl, rfl, rfl⟩ := q6
 refine Ow.Go.nr (S' := [vb]) (st' := []) ?_
 refine Ow.aloadN (pc' := 28) B e38_27 (Ow.aloadN (pc' := 29) B e38_28 (Ow.iloadN (pc' := 30) B e38_29 (Ow.iload (pc' := 32) B e38_30 ?_)))
 refine Ow.Go.old (fun o9 => ?_)
 refine Ow.callPrivateS (pc' := 35) (W := 0) (k' := 1) (n' := 32) (argsL := [(.ref a), (.int 1), (.int 2)]) (rest := []) (K := "java/lang/StringBuilder") B e38_32 (w130 hw) (w131 hw) (w132 hw) (w133 hw) (w99 hw) (w134 hw) (F).1 (gAch12 hw G GS GI o9 F hb hv hne A rx ry ha1 ha2 hc) pd24 ?_
 intro vq10 h11 S12 q10 zh11
 obtain ⟨t13, k14, rfl, Kh11, e16, f15, rfl⟩ := q10
 have lt13 : (t13 : Nat) < h11.size := f15.ltt
 refine Ow.Go.norm (S' := [t13, vb]) (st' := []) (fun _ q => q) rfl ?_
 refine Ow.aloadN (pc' := 36) B e38_35 ?_
 exact Ow.retA (S' := [t13]) (t := (.object "java/lang/AbstractStringBuilder")) B e38_36 (⟨t13, k14, rfl, ((Keep.refl _ [b, vb]).trans Kh11 (allS (Or.inl (by simp)) (allS (Or.inl (by simp)) all0))), (by omega), f15, rfl⟩)
theorem gAppA12 (hw : Hw a0 Z) (G : Ow.Glo Z cz sf) (GS : GlS Z) {iof : Value} (GI : Sta Z Z.heap "jdk/internal/util/Preconditions" "IOOBE_FORMATTER" "Ljava/util/function/BiFunction;" iof ∧ iof.isRef = true) {h0 : Heap} (O0 : Old Z n0 h0) {b vb : Nat} {kv : ClassId} {cs : List Int32} (F : Sbd Z h0 b vb kv cs) (hb : n0 ≤ b) (hv : n0 ≤ vb) (hne : b ≠ vb) {a : Nat} {ka : ClassId} {x y : Int32} (A : Arv Z h0 a ka .char 2 [(.int x), (.int y)] (.int 0)) (rx : ¬ x < (0 : Int32) ∧ ¬ (65535 : Int32) < x) (ry : ¬ y < (0 : Int32) ∧ ¬ (65535 : Int32) < y) (ha1 : a ≠ b) (ha2 : a ≠ vb) (hc : cs.length + 2 ≤ 16) :
    Ow.Con l Z EL1 n0 my39 jdk_67_method_12_code 4 (Option.some (Jvm.ClassFile.FieldType.object "java/lang/StringBuilder")) [] ({ frames := 8, cells := 1, slots := 32, locals := 125 } : Room) #[(.ref b), (.ref a), (.int 1), (.int 1)] [vb] h0 (fun v h S' => ∃ v' : Nat, ∃ kr : ClassId, v = some (.ref b) ∧ Keep h0 h [b, vb] ∧ (v' = vb ∨ h0.size ≤ v') ∧ Sbd Z h b v' kr (cs ++ [y]) ∧ S' = [v']) := by
 refine Ow.Con.enter (Ls := #[vR b, vR a, vI 1, vI 1]) (plainFor_of_name pn5) O0 (hEW hw) (hSA hw) ?_
 intro p e s m below meth c B
 have z0 := Ow.old_le O0
 have lb : (b : Nat) < h0.size := F.lt
 have lvb : (vb : Nat) < h0.size := F.ltt
 have laa : (a : Nat) < h0.size := A.lt
 refine Ow.aloadN (pc' := 1) B e39_0 (Ow.aloadN (pc' := 2) B e39_1 (Ow.iloadN (pc' := 3) B e39_2 (Ow.iloadN (pc' := 4) B e39_3 ?_)))
 refine Ow.Go.old (fun o1 => ?_)
 refine Ow.callSuper (pc' := 7) (W := 0) (k' := 1) (n' := 32) (argsL := [(.ref a), (.int 1), (.int 1)]) (rest := []) (K := "java/lang/StringBuilder") B e39_4 (w112 hw) (w113 hw) (w99 hw) (w116 hw) (w114 hw) (w128 hw) (F).1 (gApA12 hw G GS GI o1 F hb hv hne A rx ry ha1 ha2 hc) pd25 ?_
 intro vq2 h3 S4 q2 zh3
 obtain ⟨t5, k6, rfl, Kh3, e8, f7, rfl⟩ := q2
 have lt5 : (t5 : Nat) < h3.size := f7.ltt
 refine Ow.Go.norm (S' := [t5, vb]) (st' := [(.ref b)]) (fun _ q => q) rfl ?_
 refine Ow.pop (pc' := 8) B e39_7 ?_
 refine Ow.aloadN (pc' := 9) B e39_8 ?_
 exact Ow.retA (S' := [t5]) (t := (.object "java/lang/StringBuilder")) B e39_9 (⟨t5, k6, rfl, ((Keep.refl _ [b, vb]).trans Kh3 (allS (Or.inl (by simp)) (allS (Or.inl (by simp)) all0))), (by omega), f7, rfl⟩)
theorem con_checkFromToIndex_16 (hw : Hw a0 Z) (G : Ow.Glo Z cz sf) (GS : GlS Z) {iof : Value} (GI : Sta Z Z.heap "jdk/internal/util/Preconditions" "IOOBE_FORMATTER" "Ljava/util/function/BiFunction;" iof ∧ iof.isRef = true) {pv0 : Value} {h0 : Heap} (O0 : Old Z n0 h0) (hv_pv0 : pv0.isRef = true) :
    Ow.Con l Z EL1 n0 my23 jdk_41_method_12_code 4 (Option.some Jvm.ClassFile.FieldType.int) [] ({ frames := 0, cells := 0, slots := 0, locals := 0 } : Room) #[(.int 0), (.int 2), (.int 2), pv0] [] h0 (fun v h S' => (v = some (.int 0) ∧ h = h0 ∧ S' = [])) := by
 rcases ref_cases hv_pv0 with rfl | ⟨sa_pv0, rfl⟩
 ·refine Ow.Con.enter (Ls := #[vI 0, vI 2, vI 2, .val .null]) (plainFor_of_name pn3) O0 (hEW hw) (hSA hw) ?_
  intro p e s m below meth c B
  have z0 := Ow.old_le O0
  refine Ow.iloadN (pc' := 1) B e25_0 ?_
  refine Ow.ifF (pc' := 4) B e25_1 (by decide) ?_
  refine Ow.iloadN (pc' := 5) B e25_4 (Ow.iloadN (pc' := 6) B e25_5 ?_)
  refine Ow.icmpF (pc' := 9) B e25_6 (by decide) ?_
  refine Ow.iloadN (pc' := 10) B e25_9 (Ow.iloadN (pc' := 11) B e25_10 ?_)
  refine Ow.icmpT (pc' := 22) B e25_11 (by decide) ?_
  refine Ow.iloadN (pc' := 23) B e25_22 ?_
  exact Ow.retI (S' := []) (t := .int) B e25_23 (⟨rfl, rfl, rfl⟩)
 ·refine Ow.Con.enter (Ls := #[vI 0, vI 2, vI 2, vR sa_pv0]) (plainFor_of_name pn3) O0 (hEW hw) (hSA hw) ?_
  intro p e s m below meth c B
  have z0 := Ow.old_le O0
  refine Ow.iloadN (pc' := 1) B e25_0 ?_
  refine Ow.ifF (pc' := 4) B e25_1 (by decide) ?_
  refine Ow.iloadN (pc' := 5) B e25_4 (Ow.iloadN (pc' := 6) B e25_5 ?_)
  refine Ow.icmpF (pc' := 9) B e25_6 (by decide) ?_
  refine Ow.iloadN (pc' := 10) B e25_9 (Ow.iloadN (pc' := 11) B e25_10 ?_)
  refine Ow.icmpT (pc' := 22) B e25_11 (by decide) ?_
  refine Ow.iloadN (pc' := 23) B e25_22 ?_
  exact Ow.retI (S' := []) (t := .int) B e25_23 (⟨rfl, rfl, rfl⟩)
theorem gApA02 (hw : Hw a0 Z) (G : Ow.Glo Z cz sf) (GS : GlS Z) {iof : Value} (GI : Sta Z Z.heap "jdk/internal/util/Preconditions" "IOOBE_FORMATTER" "Ljava/util/function/BiFunction;" iof ∧ iof.isRef = true) {h0 : Heap} (O0 : Old Z n0 h0) {b vb : Nat} {kv : ClassId} {cs : List Int32} (F : Sbd Z h0 b vb kv cs) (hb : n0 ≤ b) (hv : n0 ≤ vb) (hne : b ≠ vb) {a : Nat} {ka : ClassId} {x y : Int32} (A : Arv Z h0 a ka .char 2 [(.int x), (.int y)] (.int 0)) (rx : ¬ x < (0 : Int32) ∧ ¬ (65535 : Int32) < x) (ry : ¬ y < (0 : Int32) ∧ ¬ (65535 : Int32) < y) (ha1 : a ≠ b) (ha2 : a ≠ vb) (hc : cs.length + 2 ≤ 16) :
    Ow.Con l Z EL1 n0 my38 jdk_68_method_29_code 5 (Option.some (Jvm.ClassFile.FieldType.object "java/lang/AbstractStringBuilder")) [] ({ frames := 7, cells := 1, slots := 32, locals := 109 } : Room) #[(.ref b), (.ref a), (.int 0), (.int 2)] [vb] h0 (fun v h S' => ∃ v' : Nat, ∃ kr : ClassId, v = some (.ref b) ∧ Keep h0 h [b, vb] ∧ (v' = vb ∨ h0.size ≤ v') ∧ Sbd Z h b v' kr (cs ++ [x, y]) ∧ S' = [v']) := by
 refine Ow.Con.enter (Ls := #[vR b, vR a, vI 0, vI 2, .unset]) (plainFor_of_name pn4) O0 (hEW hw) (hSA hw) ?_
 intro p e s m below meth c B
 have z0 := Ow.old_le O0
 have lb : (b : Nat) < h0.size := F.lt
 have lvb : (vb : Nat) < h0.size := F.ltt
 have laa : (a : Nat) < h0.size := A.lt
 refine Ow.iloadN (pc' := 1) B e38_0 (Ow.iloadN (pc' := 2) B e38_1 ?_)
 refine Ow.iadd (pc' := 3) (z := 2) B e38_2 ?_
 refine Ow.istore (pc' := 5) (Ls' := #[vR b, vR a, vI 0, vI 2, vI 2]) B e38_3 ?_
 refine Ow.iloadN (pc' := 6) B e38_5 (Ow.iload (pc' := 8) B e38_6 (Ow.aloadN (pc' := 9) B e38_8 ?_))
 refine Ow.arrlen (pc' := 10) B e38_9 A ?_
 refine Ow.getstatic (pc' := 13) B e38_10 (w117 hw) Via.refl GI.1 ?_
 refine Ow.Go.old (fun o1 => ?_)
 refine Ow.callStatic (pc' := 16) (W := 0) (k' := 0) (n' := 0) (argsL := [(.int 0), (.int 2), (.int 2), iof]) (rest := []) B e38_13 (w120 hw) (w121 hw) (w118 hw) (w122 hw) (con_checkFromToIndex_16 hw G GS GI (pv0 := iof) o1 (GI.2)) pd14 ?_
 intro vq2 h3 S4 q2 zh3
 obtain ⟨rfl, rfl, rfl⟩ := q2
 refine Ow.Go.nr (S' := [vb]) (st' := [(.int 0)]) ?_
 refine Ow.pop (pc' := 17) B e38_16 ?_
 refine Ow.aloadN (pc' := 18) B e38_17 (Ow.aloadN (pc' := 19) B e38_18 ?_)
 refine Ow.getfield (pc' := 22) B e38_19 (w123 hw) Via.refl F.2.2.2.1 ?_
 refine Ow.iloadN (pc' := 23) B e38_22 ?_
 refine Ow.iadd (pc' := 24) (z := (Int32.ofNat (cs.length + 2))) (hz := (Ow.nadd cs.length 2)) B e38_23 ?_
 refine Ow.Go.old (fun o5 => ?_)
 refine Ow.callPrivateS (pc' := 27) (W := 0) (k' := 0) (n' := 0) (argsL := [(.int (Int32.ofNat (cs.length + 2)))]) (rest := []) (K := "java/lang/StringBuilder") B e38_24 (w125 hw) (w126 hw) (w127 hw) (w128 hw) (w99 hw) (w129 hw) (F).1 (gEns hw G GS GI (m' := (cs.length + 2)) o5 F (by omega)) pd20 ?_
 intro vq6 h7 S8 q6 zh7
 obtain ⟨rfl, rfl, rfl⟩ := q6
 refine Ow.Go.nr (S' := [vb]) (st' := []) ?_
 refine Ow.aloadN (pc' := 28) B e38_27 (Ow.aloadN (pc' := 29) B e38_28 (Ow.iloadN (pc' := 30) B e38_29 (Ow.iload (pc' := 32) B e38_30 ?_)))
 refine Ow.Go.old (fun o9 => ?_)
 refine Ow.callPrivateS (pc' := 35) (W := 0) (k' := 1) (n' := 32) (argsL := [(.ref a), (.int 0), (.int 2)]) (rest := []) (K := "java/lang/StringBuilder") B e38_32 (w130 hw) (w131 hw) (w132 hw) (w133 hw) (w99 hw) (w134 hw) (F).1 (gAch02 hw G GS GI o9 F hb hv hne A rx ry ha1 ha2 hc) pd24 ?_
 intro vq10 h11 S12 q10 zh11
 obtain ⟨t13, k14, rfl, Kh11, e16, f15, rfl⟩ := q10
 have lt13 : (t13 : Nat) < h11.size := f15.ltt
 refine Ow.Go.norm (S' := [t13, vb]) (st' := []) (fun _ q => q) rfl ?_
 refine Ow.aloadN (pc' := 36) B e38_35 ?_
 exact Ow.retA (S' := [t13]) (t := (.object "java/lang/AbstractStringBuilder")) B e38_36 (⟨t13, k14, rfl, ((Keep.refl _ [b, vb]).trans Kh11 (allS (Or.inl (by simp)) (allS (Or.inl (by simp)) all0))), (by omega), f15, rfl⟩)
theorem gAppA02 (hw : Hw a0 Z) (G : Ow.Glo Z cz sf) (GS : GlS Z) {iof : Value} (GI : Sta Z Z.heap "jdk/internal/util/Preconditions" "IOOBE_FORMATTER" "Ljava/util/function/BiFunction;" iof ∧ iof.isRef = true) {h0 : Heap} (O0 : Old Z n0 h0) {b vb : Nat} {kv : ClassId} {cs : List Int32} (F : Sbd Z h0 b vb kv cs) (hb : n0 ≤ b) (hv : n0 ≤ vb) (hne : b ≠ vb) {a : Nat} {ka : ClassId} {x y : Int32} (A : Arv Z h0 a ka .char 2 [(.int x), (.int y)] (.int 0)) (rx : ¬ x < (0 : Int32) ∧ ¬ (65535 : Int32) < x) (ry : ¬ y < (0 : Int32) ∧ ¬ (65535 : Int32) < y) (ha1 : a ≠ b) (ha2 : a ≠ vb) (hc : cs.length + 2 ≤ 16) :
    Ow.Con l Z EL1 n0 my39 jdk_67_method_12_code 4 (Option.some (Jvm.ClassFile.FieldType.object "java/lang/StringBuilder")) [] ({ frames := 8, cells := 1, slots := 32, locals := 125 } : Room) #[(.ref b), (.ref a), (.int 0), (.int 2)] [vb] h0 (fun v h S' => ∃ v' : Nat, ∃ kr : ClassId, v = some (.ref b) ∧ Keep h0 h [b, vb] ∧ (v' = vb ∨ h0.size ≤ v') ∧ Sbd Z h b v' kr (cs ++ [x, y]) ∧ S' = [v']) := by
 refine Ow.Con.enter (Ls := #[vR b, vR a, vI 0, vI 2]) (plainFor_of_name pn5) O0 (hEW hw) (hSA hw) ?_
 intro p e s m below meth c B
 have z0 := Ow.old_le O0
 have lb : (b : Nat) < h0.size := F.lt
 have lvb : (vb : Nat) < h0.size := F.ltt
 have laa : (a : Nat) < h0.size := A.lt
 refine Ow.aloadN (pc' := 1) B e39_0 (Ow.aloadN (pc' := 2) B e39_1 (Ow.iloadN (pc' := 3) B e39_2 (Ow.iloadN (pc' := 4) B e39_3 ?_)))
 refine Ow.Go.old (fun o1 => ?_)
 refine Ow.callSuper (pc' := 7) (W := 0) (k' := 1) (n' := 32) (argsL := [(.ref a), (.int 0), (.int 2)]) (rest := []) (K := "java/lang/StringBuilder") B e39_4 (w112 hw) (w113 hw) (w99 hw) (w116 hw) (w114 hw) (w128 hw) (F).1 (gApA02 hw G GS GI o1 F hb hv hne A rx ry ha1 ha2 hc) pd25 ?_
 intro vq2 h3 S4 q2 zh3
 obtain ⟨t5, k6, rfl, Kh3, e8, f7, rfl⟩ := q2
 have lt5 : (t5 : Nat) < h3.size := f7.ltt
 refine Ow.Go.norm (S' := [t5, vb]) (st' := [(.ref b)]) (fun _ q => q) rfl ?_
 refine Ow.pop (pc' := 8) B e39_7 ?_
 refine Ow.aloadN (pc' := 9) B e39_8 ?_
 exact Ow.retA (S' := [t5]) (t := (.object "java/lang/StringBuilder")) B e39_9 (⟨t5, k6, rfl, ((Keep.refl _ [b, vb]).trans Kh3 (allS (Or.inl (by simp)) (allS (Or.inl (by simp)) all0))), (by omega), f7, rfl⟩)
theorem con_checkFromToIndex_17 (hw : Hw a0 Z) (G : Ow.Glo Z cz sf) (GS : GlS Z) {iof : Value} (GI : Sta Z Z.heap "jdk/internal/util/Preconditions" "IOOBE_FORMATTER" "Ljava/util/function/BiFunction;" iof ∧ iof.isRef = true) {pv0 : Value} {h0 : Heap} (O0 : Old Z n0 h0) (hv_pv0 : pv0.isRef = true) :
    Ow.Con l Z EL1 n0 my23 jdk_41_method_12_code 4 (Option.some Jvm.ClassFile.FieldType.int) [] ({ frames := 0, cells := 0, slots := 0, locals := 0 } : Room) #[(.int 0), (.int 1), (.int 2), pv0] [] h0 (fun v h S' => (v = some (.int 0) ∧ h = h0 ∧ S' = [])) := by
 rcases ref_cases hv_pv0 with rfl | ⟨sa_pv0, rfl⟩
 ·refine Ow.Con.enter (Ls := #[vI 0, vI 1, vI 2, .val .null]) (plainFor_of_name pn3) O0 (hEW hw) (hSA hw) ?_
  intro p e s m below meth c B
  have z0 := Ow.old_le O0
  refine Ow.iloadN (pc' := 1) B e25_0 ?_
  refine Ow.ifF (pc' := 4) B e25_1 (by decide) ?_
  refine Ow.iloadN (pc' := 5) B e25_4 (Ow.iloadN (pc' := 6) B e25_5 ?_)
  refine Ow.icmpF (pc' := 9) B e25_6 (by decide) ?_
  refine Ow.iloadN (pc' := 10) B e25_9 (Ow.iloadN (pc' := 11) B e25_10 ?_)
  refine Ow.icmpT (pc' := 22) B e25_11 (by decide) ?_
  refine Ow.iloadN (pc' := 23) B e25_22 ?_
  exact Ow.retI (S' := []) (t := .int) B e25_23 (⟨rfl, rfl, rfl⟩)
 ·refine Ow.Con.enter (Ls := #[vI 0, vI 1, vI 2, vR sa_pv0]) (plainFor_of_name pn3) O0 (hEW hw) (hSA hw) ?_
  intro p e s m below meth c B
  have z0 := Ow.old_le O0
  refine Ow.iloadN (pc' := 1) B e25_0 ?_
  refine Ow.ifF (pc' := 4) B e25_1 (by decide) ?_
  refine Ow.iloadN (pc' := 5) B e25_4 (Ow.iloadN (pc' := 6) B e25_5 ?_)
  refine Ow.icmpF (pc' := 9) B e25_6 (by decide) ?_
  refine Ow.iloadN (pc' := 10) B e25_9 (Ow.iloadN (pc' := 11) B e25_10 ?_)
  refine Ow.icmpT (pc' := 22) B e25_11 (by decide) ?_
  refine Ow.iloadN (pc' := 23) B e25_22 ?_
  exact Ow.retI (S' := []) (t := .int) B e25_23 (⟨rfl, rfl, rfl⟩)
theorem gApA01 (hw : Hw a0 Z) (G : Ow.Glo Z cz sf) (GS : GlS Z) {iof : Value} (GI : Sta Z Z.heap "jdk/internal/util/Preconditions" "IOOBE_FORMATTER" "Ljava/util/function/BiFunction;" iof ∧ iof.isRef = true) {h0 : Heap} (O0 : Old Z n0 h0) {b vb : Nat} {kv : ClassId} {cs : List Int32} (F : Sbd Z h0 b vb kv cs) (hb : n0 ≤ b) (hv : n0 ≤ vb) (hne : b ≠ vb) {a : Nat} {ka : ClassId} {x y : Int32} (A : Arv Z h0 a ka .char 2 [(.int x), (.int y)] (.int 0)) (rx : ¬ x < (0 : Int32) ∧ ¬ (65535 : Int32) < x) (ry : ¬ y < (0 : Int32) ∧ ¬ (65535 : Int32) < y) (ha1 : a ≠ b) (ha2 : a ≠ vb) (hc : cs.length + 2 ≤ 16) :
    Ow.Con l Z EL1 n0 my38 jdk_68_method_29_code 5 (Option.some (Jvm.ClassFile.FieldType.object "java/lang/AbstractStringBuilder")) [] ({ frames := 7, cells := 1, slots := 32, locals := 109 } : Room) #[(.ref b), (.ref a), (.int 0), (.int 1)] [vb] h0 (fun v h S' => ∃ v' : Nat, ∃ kr : ClassId, v = some (.ref b) ∧ Keep h0 h [b, vb] ∧ (v' = vb ∨ h0.size ≤ v') ∧ Sbd Z h b v' kr (cs ++ [x]) ∧ S' = [v']) := by
 refine Ow.Con.enter (Ls := #[vR b, vR a, vI 0, vI 1, .unset]) (plainFor_of_name pn4) O0 (hEW hw) (hSA hw) ?_
 intro p e s m below meth c B
 have z0 := Ow.old_le O0
 have lb : (b : Nat) < h0.size := F.lt
 have lvb : (vb : Nat) < h0.size := F.ltt
 have laa : (a : Nat) < h0.size := A.lt
 refine Ow.iloadN (pc' := 1) B e38_0 (Ow.iloadN (pc' := 2) B e38_1 ?_)
 refine Ow.iadd (pc' := 3) (z := 1) B e38_2 ?_
 refine Ow.istore (pc' := 5) (Ls' := #[vR b, vR a, vI 0, vI 1, vI 1]) B e38_3 ?_
 refine Ow.iloadN (pc' := 6) B e38_5 (Ow.iload (pc' := 8) B e38_6 (Ow.aloadN (pc' := 9) B e38_8 ?_))
 refine Ow.arrlen (pc' := 10) B e38_9 A ?_
 refine Ow.getstatic (pc' := 13) B e38_10 (w117 hw) Via.refl GI.1 ?_
 refine Ow.Go.old (fun o1 => ?_)
 refine Ow.callStatic (pc' := 16) (W := 0) (k' := 0) (n' := 0) (argsL := [(.int 0), (.int 1), (.int 2), iof]) (rest := []) B e38_13 (w120 hw) (w121 hw) (w118 hw) (w122 hw) (con_checkFromToIndex_17 hw G GS GI (pv0 := iof) o1 (GI.2)) pd14 ?_
 intro vq2 h3 S4 q2 zh3
 obtain ⟨rfl, rfl, rfl⟩ := q2
 refine Ow.Go.nr (S' := [vb]) (st' := [(.int 0)]) ?_
 refine Ow.pop (pc' := 17) B e38_16 ?_
 refine Ow.aloadN (pc' := 18) B e38_17 (Ow.aloadN (pc' := 19) B e38_18 ?_)
 refine Ow.getfield (pc' := 22) B e38_19 (w123 hw) Via.refl F.2.2.2.1 ?_
 refine Ow.iloadN (pc' := 23) B e38_22 ?_
 refine Ow.iadd (pc' := 24) (z := (Int32.ofNat (cs.length + 1))) (hz := (Ow.nadd cs.length 1)) B e38_23 ?_
 refine Ow.Go.old (fun o5 => ?_)
 refine Ow.callPrivateS (pc' := 27) (W := 0) (k' := 0) (n' := 0) (argsL := [(.int (Int32.ofNat (cs.length + 1)))]) (rest := []) (K := "java/lang/StringBuilder") B e38_24 (w125 hw) (w126 hw) (w127 hw) (w128 hw) (w99 hw) (w129 hw) (F).1 (gEns hw G GS GI (m' := (cs.length + 1)) o5 F (by omega)) pd20 ?_
 intro vq6 h7 S8 q6 zh7
 obtain ⟨rfl, rfl, rfl⟩ := q6
 refine Ow.Go.nr (S' := [vb]) (st' := []) ?_
 refine Ow.aloadN (pc' := 28) B e38_27 (Ow.aloadN (pc' := 29) B e38_28 (Ow.iloadN (pc' := 30) B e38_29 (Ow.iload (pc' := 32) B e38_30 ?_)))
 refine Ow.Go.old (fun o9 => ?_)
 refine Ow.callPrivateS (pc' := 35) (W := 0) (k' := 1) (n' := 32) (argsL := [(.ref a), (.int 0), (.int 1)]) (rest := []) (K := "java/lang/StringBuilder") B e38_32 (w130 hw) (w131 hw) (w132 hw) (w133 hw) (w99 hw) (w134 hw) (F).1 (gAch01 hw G GS GI o9 F hb hv hne A rx ry ha1 ha2 hc) pd24 ?_
 intro vq10 h11 S12 q10 zh11
 obtain ⟨t13, k14, rfl, Kh11, e16, f15, rfl⟩ := q10
 have lt13 : (t13 : Nat) < h11.size := f15.ltt
 refine Ow.Go.norm (S' := [t13, vb]) (st' := []) (fun _ q => q) rfl ?_
 refine Ow.aloadN (pc' := 36) B e38_35 ?_
 exact Ow.retA (S' := [t13]) (t := (.object "java/lang/AbstractStringBuilder")) B e38_36 (⟨t13, k14, rfl, ((Keep.refl _ [b, vb]).trans Kh11 (allS (Or.inl (by simp)) (allS (Or.inl (by simp)) all0))), (by omega), f15, rfl⟩)
theorem gAppA01 (hw : Hw a0 Z) (G : Ow.Glo Z cz sf) (GS : GlS Z) {iof : Value} (GI : Sta Z Z.heap "jdk/internal/util/Preconditions" "IOOBE_FORMATTER" "Ljava/util/function/BiFunction;" iof ∧ iof.isRef = true) {h0 : Heap} (O0 : Old Z n0 h0) {b vb : Nat} {kv : ClassId} {cs : List Int32} (F : Sbd Z h0 b vb kv cs) (hb : n0 ≤ b) (hv : n0 ≤ vb) (hne : b ≠ vb) {a : Nat} {ka : ClassId} {x y : Int32} (A : Arv Z h0 a ka .char 2 [(.int x), (.int y)] (.int 0)) (rx : ¬ x < (0 : Int32) ∧ ¬ (65535 : Int32) < x) (ry : ¬ y < (0 : Int32) ∧ ¬ (65535 : Int32) < y) (ha1 : a ≠ b) (ha2 : a ≠ vb) (hc : cs.length + 2 ≤ 16) :
    Ow.Con l Z EL1 n0 my39 jdk_67_method_12_code 4 (Option.some (Jvm.ClassFile.FieldType.object "java/lang/StringBuilder")) [] ({ frames := 8, cells := 1, slots := 32, locals := 125 } : Room) #[(.ref b), (.ref a), (.int 0), (.int 1)] [vb] h0 (fun v h S' => ∃ v' : Nat, ∃ kr : ClassId, v = some (.ref b) ∧ Keep h0 h [b, vb] ∧ (v' = vb ∨ h0.size ≤ v') ∧ Sbd Z h b v' kr (cs ++ [x]) ∧ S' = [v']) := by
 refine Ow.Con.enter (Ls := #[vR b, vR a, vI 0, vI 1]) (plainFor_of_name pn5) O0 (hEW hw) (hSA hw) ?_
 intro p e s m below meth c B
 have z0 := Ow.old_le O0
 have lb : (b : Nat) < h0.size := F.lt
 have lvb : (vb : Nat) < h0.size := F.ltt
 have laa : (a : Nat) < h0.size := A.lt
 refine Ow.aloadN (pc' := 1) B e39_0 (Ow.aloadN (pc' := 2) B e39_1 (Ow.iloadN (pc' := 3) B e39_2 (Ow.iloadN (pc' := 4) B e39_3 ?_)))
 refine Ow.Go.old (fun o1 => ?_)
 refine Ow.callSuper (pc' := 7) (W := 0) (k' := 1) (n' := 32) (argsL := [(.ref a), (.int 0), (.int 1)]) (rest := []) (K := "java/lang/StringBuilder") B e39_4 (w112 hw) (w113 hw) (w99 hw) (w116 hw) (w114 hw) (w128 hw) (F).1 (gApA01 hw G GS GI o1 F hb hv hne A rx ry ha1 ha2 hc) pd25 ?_
 intro vq2 h3 S4 q2 zh3
 obtain ⟨t5, k6, rfl, Kh3, e8, f7, rfl⟩ := q2
 have lt5 : (t5 : Nat) < h3.size := f7.ltt
 refine Ow.Go.norm (S' := [t5, vb]) (st' := [(.ref b)]) (fun _ q => q) rfl ?_
 refine Ow.pop (pc' := 8) B e39_7 ?_
 refine Ow.aloadN (pc' := 9) B e39_8 ?_
 exact Ow.retA (S' := [t5]) (t := (.object "java/lang/StringBuilder")) B e39_9 (⟨t5, k6, rfl, ((Keep.refl _ [b, vb]).trans Kh3 (allS (Or.inl (by simp)) (allS (Or.inl (by simp)) all0))), (by omega), f7, rfl⟩)
theorem gGb00 (hw : Hw a0 Z) (G : Ow.Glo Z cz sf) (GS : GlS Z) {iof : Value} (GI : Sta Z Z.heap "jdk/internal/util/Preconditions" "IOOBE_FORMATTER" "Ljava/util/function/BiFunction;" iof ∧ iof.isRef = true) {h0 : Heap} (O0 : Old Z n0 h0) {d : Nat} {kd : ClassId} {cs : List Int32} {sn t : Nat} {kt : ClassId} {ss : List Int32} (D : Arv Z h0 d kd .byte 16 (Ow.LB cs) (.int 0)) (E2 : Exa Z h0 sn "java/lang/String") (V2 : Fld Z h0 sn "java/lang/String" "value" "[B" (.ref t)) (C2 : Fld Z h0 sn "java/lang/String" "coder" "B" (.int 0)) (A2 : Arv Z h0 t kt .byte (Int32.ofNat ss.length) (Ow.LB ss) (.int 0)) (hR2 : Ow.Rng ss) (hL2 : Ow.Lat ss) (hd : n0 ≤ d) (hne : t ≠ d) (hs : cs.length + ss.length ≤ 16) :
    Ow.Con l Z EL1 n0 my40 jdk_42_method_147_code 4 (Option.none : Option Jvm.ClassFile.FieldType) [] ({ frames := 1, cells := 0, slots := 0, locals := 18 } : Room) #[(.ref sn), (.ref d), (.int (Int32.ofNat cs.length)), (.int 0)] [d] h0 (fun v h S' => v = none ∧ Keep h0 h [d] ∧ Arv Z h d kd .byte 16 (Ow.LB (cs ++ ss)) (.int 0) ∧ S' = []) := by
 refine Ow.Con.enter (Ls := #[vR sn, vR d, vI (Int32.ofNat cs.length), vI 0]) (plainFor_of_name pn1) O0 (hEW hw) (hSA hw) ?_
 intro p e s m below meth c B
 have z0 := Ow.old_le O0
 have ld : (d : Nat) < h0.size := D.lt
 have ltt : (t : Nat) < h0.size := A2.lt
 refine Ow.aloadN (pc' := 1) B e40_0 ?_
 refine Ow.Go.old (fun o1 => ?_)
 refine Ow.callVirtual (pc' := 4) (W := 0) (k' := 0) (n' := 0) (argsL := []) (rest := []) (K := "java/lang/String") B e40_1 (w61 hw) (w62 hw) (w64 hw) (w64 hw) (w63 hw) (w6 hw) (w65 hw) E2 (con_coder_1 hw G GS GI (pa0 := sn) o1 C2) pd8 ?_
 intro vq2 h3 S4 q2 zh3
 obtain ⟨rfl, rfl, rfl⟩ := q2
 refine Ow.Go.nr (S' := [d]) (st' := [(.int 0)]) ?_
 refine Ow.iloadN (pc' := 5) B e40_4 ?_
 refine Ow.icmpF (pc' := 8) B e40_5 (by decide) ?_
 refine Ow.aloadN (pc' := 9) B e40_8 ?_
 refine Ow.getfield (pc' := 12) B e40_9 (w24 hw) Via.refl V2 ?_
 refine Ow.iconst (pc' := 13) (x := 0) B e40_12 (Ow.aloadN (pc' := 14) B e40_13 (Ow.iloadN (pc' := 15) B e40_14 (Ow.iloadN (pc' := 16) B e40_15 ?_)))
 refine Ow.ishl (pc' := 17) (z := (Int32.ofNat cs.length)) (hz := (Ow.shl0 _)) B e40_16 ?_
 refine Ow.aloadN (pc' := 18) B e40_17 ?_
 refine Ow.getfield (pc' := 21) B e40_18 (w24 hw) Via.refl V2 ?_
 refine Ow.arrlen (pc' := 22) B e40_21 A2 ?_
 refine Ow.acopy (pc' := 25) (W := 0) (us := Ow.LB (cs ++ ss)) B e40_22 (w287 hw) (w187 hw) (w185 hw) (w186 hw) A2 (D.pad (pad_rep (Ow.LB cs) (.int 0) (ss.length))) (by simp) ?_ (h1 := by decide) (h2 := Ow.nn) (h3 := Ow.nn) (h4 := by rw [Ow.nc]; exact Nat.le_of_eq (Nat.zero_add _)) (h5 := by rw [Ow.nc, Ow.nc]; show _ ≤ 16; omega) (hl := by rw [Ow.nc, Ow.nc, List.length_append, List.length_replicate, List.length_map]; exact Nat.le_refl _) (hus := by rw [Ow.nc, Ow.nc]; exact Ow.cpyL cs ss)
 intro h5 Kh5 V6
 have zh5 := Kh5.1
 refine Ow.goto (pc' := 43) B e40_25 ?_
 exact Ow.retV (S' := []) B e40_43 (⟨rfl, ((Keep.refl _ [d]).trans Kh5 (allS (Or.inl (by simp)) all0)), V6, rfl⟩)
theorem gGb11 (hw : Hw a0 Z) (G : Ow.Glo Z cz sf) (GS : GlS Z) {iof : Value} (GI : Sta Z Z.heap "jdk/internal/util/Preconditions" "IOOBE_FORMATTER" "Ljava/util/function/BiFunction;" iof ∧ iof.isRef = true) {h0 : Heap} (O0 : Old Z n0 h0) {d : Nat} {kd : ClassId} {cs : List Int32} {sn t : Nat} {kt : ClassId} {ss : List Int32} (D : Arv Z h0 d kd .byte 32 (Ow.UB cs) (.int 0)) (E2 : Exa Z h0 sn "java/lang/String") (V2 : Fld Z h0 sn "java/lang/String" "value" "[B" (.ref t)) (C2 : Fld Z h0 sn "java/lang/String" "coder" "B" (.int 1)) (A2 : Arv Z h0 t kt .byte (Int32.ofNat (2 * ss.length)) (Ow.UB ss) (.int 0)) (hR2 : Ow.Rng ss) (hd : n0 ≤ d) (hne : t ≠ d) (hs : cs.length + ss.length ≤ 16) :
    Ow.Con l Z EL1 n0 my40 jdk_42_method_147_code 4 (Option.none : Option Jvm.ClassFile.FieldType) [] ({ frames := 1, cells := 0, slots := 0, locals := 18 } : Room) #[(.ref sn), (.ref d), (.int (Int32.ofNat cs.length)), (.int 1)] [d] h0 (fun v h S' => v = none ∧ Keep h0 h [d] ∧ Arv Z h d kd .byte 32 (Ow.UB (cs ++ ss)) (.int 0) ∧ S' = []) := by
 refine Ow.Con.enter (Ls := #[vR sn, vR d, vI (Int32.ofNat cs.length), vI 1]) (plainFor_of_name pn1) O0 (hEW hw) (hSA hw) ?_
 intro p e s m below meth c B
 have z0 := Ow.old_le O0
 have ld : (d : Nat) < h0.size := D.lt
 have ltt : (t : Nat) < h0.size := A2.lt
 refine Ow.aloadN (pc' := 1) B e40_0 ?_
 refine Ow.Go.old (fun o1 => ?_)
 refine Ow.callVirtual (pc' := 4) (W := 0) (k' := 0) (n' := 0) (argsL := []) (rest := []) (K := "java/lang/String") B e40_1 (w61 hw) (w62 hw) (w64 hw) (w64 hw) (w63 hw) (w6 hw) (w65 hw) E2 (con_coder_2 hw G GS GI (pa0 := sn) o1 C2) pd8 ?_
 intro vq2 h3 S4 q2 zh3
 obtain ⟨rfl, rfl, rfl⟩ := q2
 refine Ow.Go.nr (S' := [d]) (st' := [(.int 1)]) ?_
 refine Ow.iloadN (pc' := 5) B e40_4 ?_
 refine Ow.icmpF (pc' := 8) B e40_5 (by decide) ?_
 refine Ow.aloadN (pc' := 9) B e40_8 ?_
 refine Ow.getfield (pc' := 12) B e40_9 (w24 hw) Via.refl V2 ?_
 refine Ow.iconst (pc' := 13) (x := 0) B e40_12 (Ow.aloadN (pc' := 14) B e40_13 (Ow.iloadN (pc' := 15) B e40_14 (Ow.iloadN (pc' := 16) B e40_15 ?_)))
 refine Ow.ishl (pc' := 17) (z := (Int32.ofNat (2 * cs.length))) (hz := (Ow.nD (by omega))) B e40_16 ?_
 refine Ow.aloadN (pc' := 18) B e40_17 ?_
 refine Ow.getfield (pc' := 21) B e40_18 (w24 hw) Via.refl V2 ?_
 refine Ow.arrlen (pc' := 22) B e40_21 A2 ?_
 refine Ow.acopy (pc' := 25) (W := 0) (us := Ow.UB (cs ++ ss)) B e40_22 (w287 hw) (w187 hw) (w185 hw) (w186 hw) A2 (D.pad (pad_rep (Ow.UB cs) (.int 0) (2 * ss.length))) (by simp) ?_ (h1 := by decide) (h2 := Ow.nn) (h3 := Ow.nn) (h4 := by rw [Ow.nc]; exact Nat.le_of_eq (Nat.zero_add _)) (h5 := by rw [Ow.nc, Ow.nc]; show _ ≤ 32; omega) (hl := by rw [Ow.nc, Ow.nc, List.length_append, List.length_replicate, Ow.UBn]; exact Nat.le_refl _) (hus := by rw [Ow.nc, Ow.nc]; exact Ow.cpyU cs ss)
 intro h5 Kh5 V6
 have zh5 := Kh5.1
 refine Ow.goto (pc' := 43) B e40_25 ?_
 exact Ow.retV (S' := []) B e40_43 (⟨rfl, ((Keep.refl _ [d]).trans Kh5 (allS (Or.inl (by simp)) all0)), V6, rfl⟩)
theorem gGb01 (hw : Hw a0 Z) (G : Ow.Glo Z cz sf) (GS : GlS Z) {iof : Value} (GI : Sta Z Z.heap "jdk/internal/util/Preconditions" "IOOBE_FORMATTER" "Ljava/util/function/BiFunction;" iof ∧ iof.isRef = true) {h0 : Heap} (O0 : Old Z n0 h0) {d : Nat} {kd : ClassId} {cs : List Int32} {sn t : Nat} {kt : ClassId} {ss : List Int32} (D : Arv Z h0 d kd .byte 32 (Ow.UB cs) (.int 0)) (E2 : Exa Z h0 sn "java/lang/String") (V2 : Fld Z h0 sn "java/lang/String" "value" "[B" (.ref t)) (C2 : Fld Z h0 sn "java/lang/String" "coder" "B" (.int 0)) (A2 : Arv Z h0 t kt .byte (Int32.ofNat ss.length) (Ow.LB ss) (.int 0)) (hR2 : Ow.Rng ss) (hL2 : Ow.Lat ss) (hd : n0 ≤ d) (hne : t ≠ d) (hs : cs.length + ss.length ≤ 16) :
    Ow.Con l Z EL1 n0 my40 jdk_42_method_147_code 4 (Option.none : Option Jvm.ClassFile.FieldType) [] ({ frames := 5, cells := 0, slots := 0, locals := 76 } : Room) #[(.ref sn), (.ref d), (.int (Int32.ofNat cs.length)), (.int 1)] [d] h0 (fun v h S' => v = none ∧ Keep h0 h [d] ∧ Arv Z h d kd .byte 32 (Ow.UB (cs ++ ss)) (.int 0) ∧ S' = []) := by
 refine Ow.Con.enter (Ls := #[vR sn, vR d, vI (Int32.ofNat cs.length), vI 1]) (plainFor_of_name pn1) O0 (hEW hw) (hSA hw) ?_
 intro p e s m below meth c B
 have z0 := Ow.old_le O0
 have ld : (d : Nat) < h0.size := D.lt
 have ltt : (t : Nat) < h0.size := A2.lt
 refine Ow.aloadN (pc' := 1) B e40_0 ?_
 refine Ow.Go.old (fun o1 => ?_)
 refine Ow.callVirtual (pc' := 4) (W := 0) (k' := 0) (n' := 0) (argsL := []) (rest := []) (K := "java/lang/String") B e40_1 (w61 hw) (w62 hw) (w64 hw) (w64 hw) (w63 hw) (w6 hw) (w65 hw) E2 (con_coder_1 hw G GS GI (pa0 := sn) o1 C2) pd8 ?_
 intro vq2 h3 S4 q2 zh3
 obtain ⟨rfl, rfl, rfl⟩ := q2
 refine Ow.Go.nr (S' := [d]) (st' := [(.int 0)]) ?_
 refine Ow.iloadN (pc' := 5) B e40_4 ?_
 refine Ow.icmpT (pc' := 28) B e40_5 (by decide) ?_
 refine Ow.aloadN (pc' := 29) B e40_28 ?_
 refine Ow.getfield (pc' := 32) B e40_29 (w24 hw) Via.refl V2 ?_
 refine Ow.iconst (pc' := 33) (x := 0) B e40_32 (Ow.aloadN (pc' := 34) B e40_33 (Ow.iloadN (pc' := 35) B e40_34 (Ow.aloadN (pc' := 36) B e40_35 ?_)))
 refine Ow.getfield (pc' := 39) B e40_36 (w24 hw) Via.refl V2 ?_
 refine Ow.arrlen (pc' := 40) B e40_39 A2 ?_
 refine Ow.Go.old (fun o5 => ?_)
 refine Ow.callStatic (pc' := 43) (W := 0) (k' := 0) (n' := 0) (argsL := [(.ref t), (.int 0), (.ref d), (.int (Int32.ofNat cs.length)), (.int (Int32.ofNat ss.length))]) (rest := []) B e40_40 (w327 hw) (w265 hw) (w142 hw) (w266 hw) (gLin hw G GS GI (M := ss.length) (N := 16) (ss := ss) (ds := cs) o5 A2 D hR2 hL2 hd hne (Nat.le_refl _) (by omega) hs (by decide)) pd18 ?_
 intro vq6 h7 S8 q6 zh7
 obtain ⟨rfl, Kh7, fu, rfl⟩ := q6
 refine Ow.Go.nr (S' := [d]) (st' := []) ?_
 exact Ow.retV (S' := []) B e40_43 (⟨rfl, ((Keep.refl _ [d]).trans Kh7 (allS (Or.inl (by simp)) all0)), fu, rfl⟩)
theorem gIin (hw : Hw a0 Z) (G : Ow.Glo Z cz sf) (GS : GlS Z) {iof : Value} (GI : Sta Z Z.heap "jdk/internal/util/Preconditions" "IOOBE_FORMATTER" "Ljava/util/function/BiFunction;" iof ∧ iof.isRef = true) {h0 : Heap} (O0 : Old Z n0 h0) {b vb : Nat} {kv : ClassId} {cs : List Int32} (E : Exa Z h0 b "java/lang/StringBuilder") (V : Fld Z h0 b "java/lang/AbstractStringBuilder" "value" "[B" (.ref vb)) (Ml : Fld Z h0 b "java/lang/AbstractStringBuilder" "maybeLatin1" "Z" (.int 0)) (Ct : Fld Z h0 b "java/lang/AbstractStringBuilder" "count" "I" (.int (Int32.ofNat cs.length))) (oc : Fld Z h0 b "java/lang/AbstractStringBuilder" "coder" "B" (.int 0)) (oa : Arv Z h0 vb kv .byte 16 (Ow.LB cs) (.int 0)) (hR : Ow.Rng cs) (hL : Ow.Lat cs) (hc : cs.length ≤ 16) (hb : n0 ≤ b) {sn t : Nat} {kt : ClassId} {ss : List Int32} (E2 : Exa Z h0 sn "java/lang/String") (V2 : Fld Z h0 sn "java/lang/String" "value" "[B" (.ref t)) (C2 : Fld Z h0 sn "java/lang/String" "coder" "B" (.int 1)) (A2 : Arv Z h0 t kt .byte (Int32.ofNat (2 * ss.length)) (Ow.UB ss) (.int 0)) (hR2 : Ow.Rng ss) (hn1 : sn ≠ b) (hn2 : t ≠ b) (hn3 : t ≠ vb) (hn4 : sn ≠ vb) :
    Ow.Con l Z EL1 n0 my41 jdk_68_method_71_code 2 (Option.none : Option Jvm.ClassFile.FieldType) [] ({ frames := 6, cells := 1, slots := 32, locals := 89 } : Room) #[(.ref b), (.ref sn)] [] h0 (fun v h S' => ∃ r : Nat, ∃ kr : ClassId, v = none ∧ Keep h0 h [b] ∧ h0.size ≤ r ∧ Fld Z h b "java/lang/AbstractStringBuilder" "value" "[B" (.ref r) ∧ Fld Z h b "java/lang/AbstractStringBuilder" "maybeLatin1" "Z" (.int 0) ∧ Fld Z h b "java/lang/AbstractStringBuilder" "count" "I" (.int (Int32.ofNat cs.length)) ∧ Fld Z h b "java/lang/AbstractStringBuilder" "coder" "B" (.int 1) ∧ Arv Z h r kr .byte 32 (Ow.UB cs) (.int 0) ∧ S' = [r]) := by
 refine Ow.Con.enter (Ls := #[vR b, vR sn]) (plainFor_of_name pn4) O0 (hEW hw) (hSA hw) ?_
 intro p e s m below meth c B
 have z0 := Ow.old_le O0
 have lb : (b : Nat) < h0.size := E.lt
 have lvb : (vb : Nat) < h0.size := oa.lt
 have lsn : (sn : Nat) < h0.size := E2.lt
 have ltt : (t : Nat) < h0.size := A2.lt
 refine Ow.getstatic (pc' := 3) B e41_0 (w102 hw) Via.refl G.1 ?_
 refine Ow.ifF (pc' := 6) B e41_3 (feq (G.2.1)).1 ?_
 refine Ow.aloadN (pc' := 7) B e41_6 ?_
 refine Ow.getfield (pc' := 10) B e41_7 (w105 hw) Via.refl oc ?_
 refine Ow.aloadN (pc' := 11) B e41_10 ?_
 refine Ow.Go.old (fun o1 => ?_)
 refine Ow.callVirtual (pc' := 14) (W := 1) (k' := 0) (n' := 0) (argsL := []) (rest := [(.int 0)]) (K := "java/lang/String") B e41_11 (w257 hw) (w62 hw) (w64 hw) (w64 hw) (w63 hw) (w6 hw) (w65 hw) E2 (con_coder_2 hw G GS GI (pa0 := sn) o1 C2) pd8 ?_
 intro vq2 h3 S4 q2 zh3
 obtain ⟨rfl, rfl, rfl⟩ := q2
 refine Ow.Go.nr (S' := []) (st' := [(.int 1), (.int 0)]) ?_
 refine Ow.icmpF (pc' := 17) B e41_14 (by decide) ?_
 refine Ow.aloadN (pc' := 18) B e41_17 ?_
 refine Ow.Go.old (fun o5 => ?_)
 refine Ow.callPrivateS (pc' := 21) (W := 0) (k' := 1) (n' := 32) (argsL := []) (rest := []) (K := "java/lang/StringBuilder") B e41_18 (w258 hw) (w259 hw) (w260 hw) (w261 hw) (w99 hw) (w262 hw) E (gSbi hw G GS GI (cs := cs) o5 E V Ml Ct oc oa (hR) (hL) (by first|omega|(simp;omega)|simp) (by omega)) pd22 ?_
 intro vq6 h7 S8 q6 zh7
 obtain ⟨r9, k10, rfl, Kh7, br9, f11, f12, f13, f14, f15, rfl⟩ := q6
 have lr9 : (r9 : Nat) < h7.size := f15.lt
 refine Ow.Go.norm (S' := [r9]) (st' := []) (fun _ q => q) rfl ?_
 exact Ow.retV (S' := [r9]) B e41_21 (⟨r9, k10, rfl, ((Keep.refl _ [b]).trans Kh7 (allS (Or.inl (by simp)) all0)), (by omega), f11, f12, f13, f14, f15, rfl⟩)
theorem con_inflateIfNeededFor_18 (hw : Hw a0 Z) (G : Ow.Glo Z cz sf) (GS : GlS Z) {iof : Value} (GI : Sta Z Z.heap "jdk/internal/util/Preconditions" "IOOBE_FORMATTER" "Ljava/util/function/BiFunction;" iof ∧ iof.isRef = true) {pa0 : Nat} {pa1 : Nat} {h0 : Heap} (O0 : Old Z n0 h0) (hf0 : Fld Z h0 pa0 "java/lang/AbstractStringBuilder" "coder" "B" (.int 0)) (hf1 : Exa Z h0 pa1 "java/lang/String") (hf2 : Fld Z h0 pa1 "java/lang/String" "coder" "B" (.int 0)) (hn0 : n0 ≤ pa0) :
    Ow.Con l Z EL1 n0 my41 jdk_68_method_71_code 2 (Option.none : Option Jvm.ClassFile.FieldType) [] ({ frames := 1, cells := 0, slots := 0, locals := 13 } : Room) #[(.ref pa0), (.ref pa1)] [] h0 (fun v h S' => (v = none ∧ h = h0 ∧ S' = [])) := by
 refine Ow.Con.enter (Ls := #[vR pa0, vR pa1]) (plainFor_of_name pn4) O0 (hEW hw) (hSA hw) ?_
 intro p e s m below meth c B
 have z0 := Ow.old_le O0
 have lpa0 : (pa0 : Nat) < h0.size := hf0.lt
 have lpa1 : (pa1 : Nat) < h0.size := hf1.lt
 refine Ow.getstatic (pc' := 3) B e41_0 (w102 hw) Via.refl G.1 ?_
 refine Ow.ifF (pc' := 6) B e41_3 (feq (G.2.1)).1 ?_
 refine Ow.aloadN (pc' := 7) B e41_6 ?_
 refine Ow.getfield (pc' := 10) B e41_7 (w105 hw) Via.refl hf0 ?_
 refine Ow.aloadN (pc' := 11) B e41_10 ?_
 refine Ow.Go.old (fun o1 => ?_)
 refine Ow.callVirtual (pc' := 14) (W := 1) (k' := 0) (n' := 0) (argsL := []) (rest := [(.int 0)]) (K := "java/lang/String") B e41_11 (w257 hw) (w62 hw) (w64 hw) (w64 hw) (w63 hw) (w6 hw) (w65 hw) hf1 (con_coder_1 hw G GS GI (pa0 := pa1) o1 hf2) pd8 ?_
 intro vq2 h3 S4 q2 zh3
 obtain ⟨rfl, rfl, rfl⟩ := q2
 refine Ow.Go.nr (S' := []) (st' := [(.int 0), (.int 0)]) ?_
 refine Ow.icmpT (pc' := 21) B e41_14 (by decide) ?_
 exact Ow.retV (S' := []) B e41_21 (⟨rfl, rfl, rfl⟩)
theorem gPsa00 (hw : Hw a0 Z) (G : Ow.Glo Z cz sf) (GS : GlS Z) {iof : Value} (GI : Sta Z Z.heap "jdk/internal/util/Preconditions" "IOOBE_FORMATTER" "Ljava/util/function/BiFunction;" iof ∧ iof.isRef = true) {h0 : Heap} (O0 : Old Z n0 h0) {b vb : Nat} {kv : ClassId} {cs : List Int32} (E : Exa Z h0 b "java/lang/StringBuilder") (V : Fld Z h0 b "java/lang/AbstractStringBuilder" "value" "[B" (.ref vb)) (Ml : Fld Z h0 b "java/lang/AbstractStringBuilder" "maybeLatin1" "Z" (.int 0)) (Ct : Fld Z h0 b "java/lang/AbstractStringBuilder" "count" "I" (.int (Int32.ofNat cs.length))) (oc : Fld Z h0 b "java/lang/AbstractStringBuilder" "coder" "B" (.int 0)) (oa : Arv Z h0 vb kv .byte 16 (Ow.LB cs) (.int 0)) (hR : Ow.Rng cs) (hL : Ow.Lat cs) (hc : cs.length ≤ 16) (hb : n0 ≤ b) {sn t : Nat} {kt : ClassId} {ss : List Int32} (E2 : Exa Z h0 sn "java/lang/String") (V2 : Fld Z h0 sn "java/lang/String" "value" "[B" (.ref t)) (C2 : Fld Z h0 sn "java/lang/String" "coder" "B" (.int 0)) (A2 : Arv Z h0 t kt .byte (Int32.ofNat ss.length) (Ow.LB ss) (.int 0)) (hR2 : Ow.Rng ss) (hL2 : Ow.Lat ss) (hn1 : sn ≠ b) (hn2 : t ≠ b) (hn3 : t ≠ vb) (hn4 : sn ≠ vb) (hv : n0 ≤ vb) (hne : b ≠ vb) (hs : cs.length + ss.length ≤ 16) :
    Ow.Con l Z EL1 n0 my42 jdk_68_method_73_code 3 (Option.none : Option Jvm.ClassFile.FieldType) [] ({ frames := 2, cells := 0, slots := 0, locals := 33 } : Room) #[(.ref b), (.int (Int32.ofNat cs.length)), (.ref sn)] [vb] h0 (fun v h S' => ∃ r : Nat, ∃ kr : ClassId, v = none ∧ Keep h0 h [b, vb] ∧ (r = vb ∨ h0.size ≤ r) ∧ Fld Z h b "java/lang/AbstractStringBuilder" "value" "[B" (.ref r) ∧ Fld Z h b "java/lang/AbstractStringBuilder" "maybeLatin1" "Z" (.int 0) ∧ Fld Z h b "java/lang/AbstractStringBuilder" "count" "I" (.int (Int32.ofNat cs.length)) ∧ Fld Z h b "java/lang/AbstractStringBuilder" "coder" "B" (.int 0) ∧ Arv Z h r kr .byte 16 (Ow.LB (cs ++ ss)) (.int 0) ∧ S' = [r]) := by
 refine Ow.Con.enter (Ls := #[vR b, vI (Int32.ofNat cs.length), vR sn]) (plainFor_of_name pn4) O0 (hEW hw) (hSA hw) ?_
 intro p e s m below meth c B
 have z0 := Ow.old_le O0
 have lb : (b : Nat) < h0.size := E.lt
 have lvb : (vb : Nat) < h0.size := oa.lt
 have lsn : (sn : Nat) < h0.size := E2.lt
 have ltt : (t : Nat) < h0.size := A2.lt
 refine Ow.aloadN (pc' := 1) B e42_0 (Ow.aloadN (pc' := 2) B e42_1 ?_)
 refine Ow.Go.old (fun o1 => ?_)
 refine Ow.callPrivateS (pc' := 5) (W := 0) (k' := 0) (n' := 0) (argsL := [(.ref sn)]) (rest := []) (K := "java/lang/StringBuilder") B e42_2 (w252 hw) (w253 hw) (w254 hw) (w255 hw) (w99 hw) (w256 hw) E (con_inflateIfNeededFor_18 hw G GS GI (pa0 := b) (pa1 := sn) o1 oc E2 C2 (by omega)) pd26 ?_
 intro vq2 h3 S4 q2 zh3
 obtain ⟨rfl, rfl, rfl⟩ := q2
 refine Ow.Go.nr (S' := [vb]) (st' := []) ?_
 refine Ow.aloadN (pc' := 6) B e42_5 (Ow.aloadN (pc' := 7) B e42_6 ?_)
 refine Ow.getfield (pc' := 10) B e42_7 (w103 hw) Via.refl V ?_
 refine Ow.iloadN (pc' := 11) B e42_10 (Ow.aloadN (pc' := 12) B e42_11 ?_)
 refine Ow.getfield (pc' := 15) B e42_12 (w105 hw) Via.refl oc ?_
 refine Ow.Go.old (fun o5 => ?_)
 refine Ow.callVirtual (pc' := 18) (W := 0) (k' := 0) (n' := 0) (argsL := [(.ref vb), (.int (Int32.ofNat cs.length)), (.int 0)]) (rest := []) (K := "java/lang/String") B e42_15 (w282 hw) (w283 hw) (w285 hw) (w285 hw) (w284 hw) (w6 hw) (w286 hw) E2 (gGb00 hw G GS GI (cs := cs) o5 oa E2 V2 C2 A2 hR2 hL2 (by omega) (by omega) hs) pd27 ?_
 intro vq6 h7 S8 q6 zh7
 obtain ⟨rfl, Kh7, f9, rfl⟩ := q6
 refine Ow.Go.nr (S' := [vb]) (st' := []) ?_
 have f10 := V.keep Kh7 (Ow.ninS (by omega) Ow.nin0)
 have f11 := Ml.keep Kh7 (Ow.ninS (by omega) Ow.nin0)
 have f12 := Ct.keep Kh7 (Ow.ninS (by omega) Ow.nin0)
 have f13 := oc.keep Kh7 (Ow.ninS (by omega) Ow.nin0)
 exact Ow.retV (S' := [vb]) B e42_18 (⟨vb, kv, rfl, ((Keep.refl _ [b, vb]).trans Kh7 (allS (Or.inl (by simp)) all0)), Or.inl rfl, f10, f11, f12, f13, f9, rfl⟩)
theorem gPsa01 (hw : Hw a0 Z) (G : Ow.Glo Z cz sf) (GS : GlS Z) {iof : Value} (GI : Sta Z Z.heap "jdk/internal/util/Preconditions" "IOOBE_FORMATTER" "Ljava/util/function/BiFunction;" iof ∧ iof.isRef = true) {h0 : Heap} (O0 : Old Z n0 h0) {b vb : Nat} {kv : ClassId} {cs : List Int32} (E : Exa Z h0 b "java/lang/StringBuilder") (V : Fld Z h0 b "java/lang/AbstractStringBuilder" "value" "[B" (.ref vb)) (Ml : Fld Z h0 b "java/lang/AbstractStringBuilder" "maybeLatin1" "Z" (.int 0)) (Ct : Fld Z h0 b "java/lang/AbstractStringBuilder" "count" "I" (.int (Int32.ofNat cs.length))) (oc : Fld Z h0 b "java/lang/AbstractStringBuilder" "coder" "B" (.int 0)) (oa : Arv Z h0 vb kv .byte 16 (Ow.LB cs) (.int 0)) (hR : Ow.Rng cs) (hL : Ow.Lat cs) (hc : cs.length ≤ 16) (hb : n0 ≤ b) {sn t : Nat} {kt : ClassId} {ss : List Int32} (E2 : Exa Z h0 sn "java/lang/String") (V2 : Fld Z h0 sn "java/lang/String" "value" "[B" (.ref t)) (C2 : Fld Z h0 sn "java/lang/String" "coder" "B" (.int 1)) (A2 : Arv Z h0 t kt .byte (Int32.ofNat (2 * ss.length)) (Ow.UB ss) (.int 0)) (hR2 : Ow.Rng ss) (hn1 : sn ≠ b) (hn2 : t ≠ b) (hn3 : t ≠ vb) (hn4 : sn ≠ vb) (hv : n0 ≤ vb) (hne : b ≠ vb) (hs : cs.length + ss.length ≤ 16) :
    Ow.Con l Z EL1 n0 my42 jdk_68_method_73_code 3 (Option.none : Option Jvm.ClassFile.FieldType) [] ({ frames := 7, cells := 1, slots := 32, locals := 102 } : Room) #[(.ref b), (.int (Int32.ofNat cs.length)), (.ref sn)] [vb] h0 (fun v h S' => ∃ r : Nat, ∃ kr : ClassId, v = none ∧ Keep h0 h [b, vb] ∧ (r = vb ∨ h0.size ≤ r) ∧ Fld Z h b "java/lang/AbstractStringBuilder" "value" "[B" (.ref r) ∧ Fld Z h b "java/lang/AbstractStringBuilder" "maybeLatin1" "Z" (.int 0) ∧ Fld Z h b "java/lang/AbstractStringBuilder" "count" "I" (.int (Int32.ofNat cs.length)) ∧ Fld Z h b "java/lang/AbstractStringBuilder" "coder" "B" (.int 1) ∧ Arv Z h r kr .byte 32 (Ow.UB (cs ++ ss)) (.int 0) ∧ S' = [r]) := by
 refine Ow.Con.enter (Ls := #[vR b, vI (Int32.ofNat cs.length), vR sn]) (plainFor_of_name pn4) O0 (hEW hw) (hSA hw) ?_
 intro p e s m below meth c B
 have z0 := Ow.old_le O0
 have lb : (b : Nat) < h0.size := E.lt
 have lvb : (vb : Nat) < h0.size := oa.lt
 have lsn : (sn : Nat) < h0.size := E2.lt
 have ltt : (t : Nat) < h0.size := A2.lt
 refine Ow.aloadN (pc' := 1) B e42_0 (Ow.aloadN (pc' := 2) B e42_1 ?_)
 refine Ow.Go.old (fun o1 => ?_)
 refine Ow.callPrivateS (pc' := 5) (W := 0) (k' := 1) (n' := 32) (argsL := [(.ref sn)]) (rest := []) (K := "java/lang/StringBuilder") B e42_2 (w252 hw) (w253 hw) (w254 hw) (w255 hw) (w99 hw) (w256 hw) E (gIin hw G GS GI o1 E V Ml Ct oc oa hR hL (by omega) hb E2 V2 C2 A2 hR2 hn1 hn2 hn3 hn4) pd26 ?_
 intro vq2 h3 S4 q2 zh3
 obtain ⟨r5, k6, rfl, Kh3, br5, f7, f8, f9, f10, f11, rfl⟩ := q2
 have lr5 : (r5 : Nat) < h3.size := f11.lt
 refine Ow.Go.norm (S' := [r5, vb]) (st' := []) (fun _ q => q) rfl ?_
 refine Ow.aloadN (pc' := 6) B e42_5 (Ow.aloadN (pc' := 7) B e42_6 ?_)
 refine Ow.getfield (pc' := 10) B e42_7 (w103 hw) Via.refl f7 ?_
 refine Ow.iloadN (pc' := 11) B e42_10 (Ow.aloadN (pc' := 12) B e42_11 ?_)
 refine Ow.getfield (pc' := 15) B e42_12 (w105 hw) Via.refl f10 ?_
 have f12 := E2.keep Kh3
 have f13 := V2.keep Kh3 (Ow.ninS (by omega) Ow.nin0)
 have f14 := C2.keep Kh3 (Ow.ninS (by omega) Ow.nin0)
 have f15 := A2.keep Kh3 (Ow.ninS (by omega) Ow.nin0)
 refine Ow.Go.old (fun o16 => ?_)
 refine Ow.callVirtual (pc' := 18) (W := 0) (k' := 1) (n' := 32) (argsL := [(.ref r5), (.int (Int32.ofNat cs.length)), (.int 1)]) (rest := []) (K := "java/lang/String") B e42_15 (w282 hw) (w283 hw) (w285 hw) (w285 hw) (w284 hw) (w6 hw) (w286 hw) f12 (gGb11 hw G GS GI (cs := cs) o16 f11 f12 f13 f14 f15 hR2 (by omega) (by omega) hs) pd27 ?_
 intro vq17 h18 S19 q17 zh18
 obtain ⟨rfl, Kh18, f20, rfl⟩ := q17
 refine Ow.Go.nr (S' := [r5, vb]) (st' := []) ?_
 have f21 := f7.keep Kh18 (Ow.ninS (by omega) Ow.nin0)
 have f22 := f8.keep Kh18 (Ow.ninS (by omega) Ow.nin0)
 have f23 := f9.keep Kh18 (Ow.ninS (by omega) Ow.nin0)
 have f24 := f10.keep Kh18 (Ow.ninS (by omega) Ow.nin0)
 exact Ow.retV (S' := [r5]) B e42_18 (⟨r5, k6, rfl, (((Keep.refl _ [b, vb]).trans Kh3 (allS (Or.inl (by simp)) all0)).trans Kh18 (allS (Or.inr (by omega)) all0)), Or.inr (by omega), f21, f22, f23, f24, f20, rfl⟩)
theorem con_inflate_19 (hw : Hw a0 Z) (G : Ow.Glo Z cz sf) (GS : GlS Z) {iof : Value} (GI : Sta Z Z.heap "jdk/internal/util/Preconditions" "IOOBE_FORMATTER" "Ljava/util/function/BiFunction;" iof ∧ iof.isRef = true) {pa0 : Nat} {h0 : Heap} (O0 : Old Z n0 h0) (hf0 : Exa Z h0 pa0 "java/lang/StringBuilder") (hf1 : Fld Z h0 pa0 "java/lang/AbstractStringBuilder" "coder" "B" (.int 1)) (hn0 : n0 ≤ pa0) :
    Ow.Con l Z EL1 n0 my33 jdk_68_method_11_code 2 (Option.none : Option Jvm.ClassFile.FieldType) [] ({ frames := 1, cells := 0, slots := 0, locals := 12 } : Room) #[(.ref pa0)] [] h0 (fun v h S' => (v = none ∧ h = h0 ∧ S' = [])) := by
 refine Ow.Con.enter (Ls := #[vR pa0, .unset]) (plainFor_of_name pn4) O0 (hEW hw) (hSA hw) ?_
 intro p e s m below meth c B
 have z0 := Ow.old_le O0
 have lpa0 : (pa0 : Nat) < h0.size := hf0.lt
 refine Ow.aloadN (pc' := 1) B e32_0 ?_
 refine Ow.Go.old (fun o1 => ?_)
 refine Ow.callVirtual (pc' := 4) (W := 0) (k' := 0) (n' := 0) (argsL := []) (rest := []) (K := "java/lang/StringBuilder") B e32_1 (w135 hw) (w136 hw) (w138 hw) (w138 hw) (w137 hw) (w99 hw) (w139 hw) hf0 (con_isLatin1_13 hw G GS GI (pa0 := pa0) o1 hf1 (by omega)) pd13 ?_
 intro vq2 h3 S4 q2 zh3
 obtain ⟨rfl, rfl, rfl⟩ := q2
 refine Ow.Go.nr (S' := []) (st' := [(.int 0)]) ?_
 refine Ow.ifF (pc' := 7) B e32_4 (by decide) ?_
 exact Ow.retV (S' := []) B e32_7 (⟨rfl, rfl, rfl⟩)
theorem con_inflateIfNeededFor_20 (hw : Hw a0 Z) (G : Ow.Glo Z cz sf) (GS : GlS Z) {iof : Value} (GI : Sta Z Z.heap "jdk/internal/util/Preconditions" "IOOBE_FORMATTER" "Ljava/util/function/BiFunction;" iof ∧ iof.isRef = true) {pa0 : Nat} {pa1 : Nat} {h0 : Heap} (O0 : Old Z n0 h0) (hf0 : Exa Z h0 pa0 "java/lang/StringBuilder") (hf1 : Fld Z h0 pa0 "java/lang/AbstractStringBuilder" "coder" "B" (.int 1)) (hf2 : Exa Z h0 pa1 "java/lang/String") (hf3 : Fld Z h0 pa1 "java/lang/String" "coder" "B" (.int 0)) (hn0 : n0 ≤ pa0) :
    Ow.Con l Z EL1 n0 my41 jdk_68_method_71_code 2 (Option.none : Option Jvm.ClassFile.FieldType) [] ({ frames := 2, cells := 0, slots := 0, locals := 25 } : Room) #[(.ref pa0), (.ref pa1)] [] h0 (fun v h S' => (v = none ∧ h = h0 ∧ S' = [])) := by
 refine Ow.Con.enter (Ls := #[vR pa0, vR pa1]) (plainFor_of_name pn4) O0 (hEW hw) (hSA hw) ?_
 intro p e s m below meth c B
 have z0 := Ow.old_le O0
 have lpa0 : (pa0 : Nat) < h0.size := hf0.lt
 have lpa1 : (pa1 : Nat) < h0.size := hf2.lt
 refine Ow.getstatic (pc' := 3) B e41_0 (w102 hw) Via.refl G.1 ?_
 refine Ow.ifF (pc' := 6) B e41_3 (feq (G.2.1)).1 ?_
 refine Ow.aloadN (pc' := 7) B e41_6 ?_
 refine Ow.getfield (pc' := 10) B e41_7 (w105 hw) Via.refl hf1 ?_
 refine Ow.aloadN (pc' := 11) B e41_10 ?_
 refine Ow.Go.old (fun o1 => ?_)
 refine Ow.callVirtual (pc' := 14) (W := 1) (k' := 0) (n' := 0) (argsL := []) (rest := [(.int 1)]) (K := "java/lang/String") B e41_11 (w257 hw) (w62 hw) (w64 hw) (w64 hw) (w63 hw) (w6 hw) (w65 hw) hf2 (con_coder_1 hw G GS GI (pa0 := pa1) o1 hf3) pd8 ?_
 intro vq2 h3 S4 q2 zh3
 obtain ⟨rfl, rfl, rfl⟩ := q2
 refine Ow.Go.nr (S' := []) (st' := [(.int 0), (.int 1)]) ?_
 refine Ow.icmpF (pc' := 17) B e41_14 (by decide) ?_
 refine Ow.aloadN (pc' := 18) B e41_17 ?_
 refine Ow.Go.old (fun o5 => ?_)
 refine Ow.callPrivateS (pc' := 21) (W := 0) (k' := 0) (n' := 0) (argsL := []) (rest := []) (K := "java/lang/StringBuilder") B e41_18 (w258 hw) (w259 hw) (w260 hw) (w261 hw) (w99 hw) (w262 hw) hf0 (con_inflate_19 hw G GS GI (pa0 := pa0) o5 hf0 hf1 (by omega)) pd22 ?_
 intro vq6 h7 S8 q6 zh7
 obtain ⟨rfl, rfl, rfl⟩ := q6
 refine Ow.Go.nr (S' := []) (st' := []) ?_
 exact Ow.retV (S' := []) B e41_21 (⟨rfl, rfl, rfl⟩)
theorem gPsa10 (hw : Hw a0 Z) (G : Ow.Glo Z cz sf) (GS : GlS Z) {iof : Value} (GI : Sta Z Z.heap "jdk/internal/util/Preconditions" "IOOBE_FORMATTER" "Ljava/util/function/BiFunction;" iof ∧ iof.isRef = true) {h0 : Heap} (O0 : Old Z n0 h0) {b vb : Nat} {kv : ClassId} {cs : List Int32} (E : Exa Z h0 b "java/lang/StringBuilder") (V : Fld Z h0 b "java/lang/AbstractStringBuilder" "value" "[B" (.ref vb)) (Ml : Fld Z h0 b "java/lang/AbstractStringBuilder" "maybeLatin1" "Z" (.int 0)) (Ct : Fld Z h0 b "java/lang/AbstractStringBuilder" "count" "I" (.int (Int32.ofNat cs.length))) (oc : Fld Z h0 b "java/lang/AbstractStringBuilder" "coder" "B" (.int 1)) (oa : Arv Z h0 vb kv .byte 32 (Ow.UB cs) (.int 0)) (hR : Ow.Rng cs) (hc : cs.length ≤ 16) (hb : n0 ≤ b) {sn t : Nat} {kt : ClassId} {ss : List Int32} (E2 : Exa Z h0 sn "java/lang/String") (V2 : Fld Z h0 sn "java/lang/String" "value" "[B" (.ref t)) (C2 : Fld Z h0 sn "java/lang/String" "coder" "B" (.int 0)) (A2 : Arv Z h0 t kt .byte (Int32.ofNat ss.length) (Ow.LB ss) (.int 0)) (hR2 : Ow.Rng ss) (hL2 : Ow.Lat ss) (hn1 : sn ≠ b) (hn2 : t ≠ b) (hn3 : t ≠ vb) (hn4 : sn ≠ vb) (hv : n0 ≤ vb) (hne : b ≠ vb) (hs : cs.length + ss.length ≤ 16) :
    Ow.Con l Z EL1 n0 my42 jdk_68_method_73_code 3 (Option.none : Option Jvm.ClassFile.FieldType) [] ({ frames := 6, cells := 0, slots := 0, locals := 91 } : Room) #[(.ref b), (.int (Int32.ofNat cs.length)), (.ref sn)] [vb] h0 (fun v h S' => ∃ r : Nat, ∃ kr : ClassId, v = none ∧ Keep h0 h [b, vb] ∧ (r = vb ∨ h0.size ≤ r) ∧ Fld Z h b "java/lang/AbstractStringBuilder" "value" "[B" (.ref r) ∧ Fld Z h b "java/lang/AbstractStringBuilder" "maybeLatin1" "Z" (.int 0) ∧ Fld Z h b "java/lang/AbstractStringBuilder" "count" "I" (.int (Int32.ofNat cs.length)) ∧ Fld Z h b "java/lang/AbstractStringBuilder" "coder" "B" (.int 1) ∧ Arv Z h r kr .byte 32 (Ow.UB (cs ++ ss)) (.int 0) ∧ S' = [r]) := by
 refine Ow.Con.enter (Ls := #[vR b, vI (Int32.ofNat cs.length), vR sn]) (plainFor_of_name pn4) O0 (hEW hw) (hSA hw) ?_
 intro p e s m below meth c B
 have z0 := Ow.old_le O0
 have lb : (b : Nat) < h0.size := E.lt
 have lvb : (vb : Nat) < h0.size := oa.lt
 have lsn : (sn : Nat) < h0.size := E2.lt
 have ltt : (t : Nat) < h0.size := A2.lt
 refine Ow.aloadN (pc' := 1) B e42_0 (Ow.aloadN (pc' := 2) B e42_1 ?_)
 refine Ow.Go.old (fun o1 => ?_)
 refine Ow.callPrivateS (pc' := 5) (W := 0) (k' := 0) (n' := 0) (argsL := [(.ref sn)]) (rest := []) (K := "java/lang/StringBuilder") B e42_2 (w252 hw) (w253 hw) (w254 hw) (w255 hw) (w99 hw) (w256 hw) E (con_inflateIfNeededFor_20 hw G GS GI (pa0 := b) (pa1 := sn) o1 E oc E2 C2 (by omega)) pd26 ?_
 intro vq2 h3 S4 q2 zh3
 obtain ⟨rfl, rfl, rfl⟩ := q2
 refine Ow.Go.nr (S' := [vb]) (st' := []) ?_
 refine Ow.aloadN (pc' := 6) B e42_5 (Ow.aloadN (pc' := 7) B e42_6 ?_)
 refine Ow.getfield (pc' := 10) B e42_7 (w103 hw) Via.refl V ?_
 refine Ow.iloadN (pc' := 11) B e42_10 (Ow.aloadN (pc' := 12) B e42_11 ?_)
 refine Ow.getfield (pc' := 15) B e42_12 (w105 hw) Via.refl oc ?_
 refine Ow.Go.old (fun o5 => ?_)
 refine Ow.callVirtual (pc' := 18) (W := 0) (k' := 0) (n' := 0) (argsL := [(.ref vb), (.int (Int32.ofNat cs.length)), (.int 1)]) (rest := []) (K := "java/lang/String") B e42_15 (w282 hw) (w283 hw) (w285 hw) (w285 hw) (w284 hw) (w6 hw) (w286 hw) E2 (gGb01 hw G GS GI (cs := cs) o5 oa E2 V2 C2 A2 hR2 hL2 (by omega) (by omega) hs) pd27 ?_
 intro vq6 h7 S8 q6 zh7
 obtain ⟨rfl, Kh7, f9, rfl⟩ := q6
 refine Ow.Go.nr (S' := [vb]) (st' := []) ?_
 have f10 := V.keep Kh7 (Ow.ninS (by omega) Ow.nin0)
 have f11 := Ml.keep Kh7 (Ow.ninS (by omega) Ow.nin0)
 have f12 := Ct.keep Kh7 (Ow.ninS (by omega) Ow.nin0)
 have f13 := oc.keep Kh7 (Ow.ninS (by omega) Ow.nin0)
 exact Ow.retV (S' := [vb]) B e42_18 (⟨vb, kv, rfl, ((Keep.refl _ [b, vb]).trans Kh7 (allS (Or.inl (by simp)) all0)), Or.inl rfl, f10, f11, f12, f13, f9, rfl⟩)
theorem con_inflateIfNeededFor_21 (hw : Hw a0 Z) (G : Ow.Glo Z cz sf) (GS : GlS Z) {iof : Value} (GI : Sta Z Z.heap "jdk/internal/util/Preconditions" "IOOBE_FORMATTER" "Ljava/util/function/BiFunction;" iof ∧ iof.isRef = true) {pa0 : Nat} {pa1 : Nat} {h0 : Heap} (O0 : Old Z n0 h0) (hf0 : Fld Z h0 pa0 "java/lang/AbstractStringBuilder" "coder" "B" (.int 1)) (hf1 : Exa Z h0 pa1 "java/lang/String") (hf2 : Fld Z h0 pa1 "java/lang/String" "coder" "B" (.int 1)) (hn0 : n0 ≤ pa0) :
    Ow.Con l Z EL1 n0 my41 jdk_68_method_71_code 2 (Option.none : Option Jvm.ClassFile.FieldType) [] ({ frames := 1, cells := 0, slots := 0, locals := 13 } : Room) #[(.ref pa0), (.ref pa1)] [] h0 (fun v h S' => (v = none ∧ h = h0 ∧ S' = [])) := by
 refine Ow.Con.enter (Ls := #[vR pa0, vR pa1]) (plainFor_of_name pn4) O0 (hEW hw) (hSA hw) ?_
 intro p e s m below meth c B
 have z0 := Ow.old_le O0
 have lpa0 : (pa0 : Nat) < h0.size := hf0.lt
 have lpa1 : (pa1 : Nat) < h0.size := hf1.lt
 refine Ow.getstatic (pc' := 3) B e41_0 (w102 hw) Via.refl G.1 ?_
 refine Ow.ifF (pc' := 6) B e41_3 (feq (G.2.1)).1 ?_
 refine Ow.aloadN (pc' := 7) B e41_6 ?_
 refine Ow.getfield (pc' := 10) B e41_7 (w105 hw) Via.refl hf0 ?_
 refine Ow.aloadN (pc' := 11) B e41_10 ?_
 refine Ow.Go.old (fun o1 => ?_)
 refine Ow.callVirtual (pc' := 14) (W := 1) (k' := 0) (n' := 0) (argsL := []) (rest := [(.int 1)]) (K := "java/lang/String") B e41_11 (w257 hw) (w62 hw) (w64 hw) (w64 hw) (w63 hw) (w6 hw) (w65 hw) hf1 (con_coder_2 hw G GS GI (pa0 := pa1) o1 hf2) pd8 ?_
 intro vq2 h3 S4 q2 zh3
 obtain ⟨rfl, rfl, rfl⟩ := q2
 refine Ow.Go.nr (S' := []) (st' := [(.int 1), (.int 1)]) ?_
 refine Ow.icmpT (pc' := 21) B e41_14 (by decide) ?_
 exact Ow.retV (S' := []) B e41_21 (⟨rfl, rfl, rfl⟩)
theorem gPsa11 (hw : Hw a0 Z) (G : Ow.Glo Z cz sf) (GS : GlS Z) {iof : Value} (GI : Sta Z Z.heap "jdk/internal/util/Preconditions" "IOOBE_FORMATTER" "Ljava/util/function/BiFunction;" iof ∧ iof.isRef = true) {h0 : Heap} (O0 : Old Z n0 h0) {b vb : Nat} {kv : ClassId} {cs : List Int32} (E : Exa Z h0 b "java/lang/StringBuilder") (V : Fld Z h0 b "java/lang/AbstractStringBuilder" "value" "[B" (.ref vb)) (Ml : Fld Z h0 b "java/lang/AbstractStringBuilder" "maybeLatin1" "Z" (.int 0)) (Ct : Fld Z h0 b "java/lang/AbstractStringBuilder" "count" "I" (.int (Int32.ofNat cs.length))) (oc : Fld Z h0 b "java/lang/AbstractStringBuilder" "coder" "B" (.int 1)) (oa : Arv Z h0 vb kv .byte 32 (Ow.UB cs) (.int 0)) (hR : Ow.Rng cs) (hc : cs.length ≤ 16) (hb : n0 ≤ b) {sn t : Nat} {kt : ClassId} {ss : List Int32} (E2 : Exa Z h0 sn "java/lang/String") (V2 : Fld Z h0 sn "java/lang/String" "value" "[B" (.ref t)) (C2 : Fld Z h0 sn "java/lang/String" "coder" "B" (.int 1)) (A2 : Arv Z h0 t kt .byte (Int32.ofNat (2 * ss.length)) (Ow.UB ss) (.int 0)) (hR2 : Ow.Rng ss) (hn1 : sn ≠ b) (hn2 : t ≠ b) (hn3 : t ≠ vb) (hn4 : sn ≠ vb) (hv : n0 ≤ vb) (hne : b ≠ vb) (hs : cs.length + ss.length ≤ 16) :
    Ow.Con l Z EL1 n0 my42 jdk_68_method_73_code 3 (Option.none : Option Jvm.ClassFile.FieldType) [] ({ frames := 2, cells := 0, slots := 0, locals := 33 } : Room) #[(.ref b), (.int (Int32.ofNat cs.length)), (.ref sn)] [vb] h0 (fun v h S' => ∃ r : Nat, ∃ kr : ClassId, v = none ∧ Keep h0 h [b, vb] ∧ (r = vb ∨ h0.size ≤ r) ∧ Fld Z h b "java/lang/AbstractStringBuilder" "value" "[B" (.ref r) ∧ Fld Z h b "java/lang/AbstractStringBuilder" "maybeLatin1" "Z" (.int 0) ∧ Fld Z h b "java/lang/AbstractStringBuilder" "count" "I" (.int (Int32.ofNat cs.length)) ∧ Fld Z h b "java/lang/AbstractStringBuilder" "coder" "B" (.int 1) ∧ Arv Z h r kr .byte 32 (Ow.UB (cs ++ ss)) (.int 0) ∧ S' = [r]) := by
 refine Ow.Con.enter (Ls := #[vR b, vI (Int32.ofNat cs.length), vR sn]) (plainFor_of_name pn4) O0 (hEW hw) (hSA hw) ?_
 intro p e s m below meth c B
 have z0 := Ow.old_le O0
 have lb : (b : Nat) < h0.size := E.lt
 have lvb : (vb : Nat) < h0.size := oa.lt
 have lsn : (sn : Nat) < h0.size := E2.lt
 have ltt : (t : Nat) < h0.size := A2.lt
 refine Ow.aloadN (pc' := 1) B e42_0 (Ow.aloadN (pc' := 2) B e42_1 ?_)
 refine Ow.Go.old (fun o1 => ?_)
 refine Ow.callPrivateS (pc' := 5) (W := 0) (k' := 0) (n' := 0) (argsL := [(.ref sn)]) (rest := []) (K := "java/lang/StringBuilder") B e42_2 (w252 hw) (w253 hw) (w254 hw) (w255 hw) (w99 hw) (w256 hw) E (con_inflateIfNeededFor_21 hw G GS GI (pa0 := b) (pa1 := sn) o1 oc E2 C2 (by omega)) pd26 ?_
 intro vq2 h3 S4 q2 zh3
 obtain ⟨rfl, rfl, rfl⟩ := q2
 refine Ow.Go.nr (S' := [vb]) (st' := []) ?_
 refine Ow.aloadN (pc' := 6) B e42_5 (Ow.aloadN (pc' := 7) B e42_6 ?_)
 refine Ow.getfield (pc' := 10) B e42_7 (w103 hw) Via.refl V ?_
 refine Ow.iloadN (pc' := 11) B e42_10 (Ow.aloadN (pc' := 12) B e42_11 ?_)
 refine Ow.getfield (pc' := 15) B e42_12 (w105 hw) Via.refl oc ?_
 refine Ow.Go.old (fun o5 => ?_)
 refine Ow.callVirtual (pc' := 18) (W := 0) (k' := 0) (n' := 0) (argsL := [(.ref vb), (.int (Int32.ofNat cs.length)), (.int 1)]) (rest := []) (K := "java/lang/String") B e42_15 (w282 hw) (w283 hw) (w285 hw) (w285 hw) (w284 hw) (w6 hw) (w286 hw) E2 (gGb11 hw G GS GI (cs := cs) o5 oa E2 V2 C2 A2 hR2 (by omega) (by omega) hs) pd27 ?_
 intro vq6 h7 S8 q6 zh7
 obtain ⟨rfl, Kh7, f9, rfl⟩ := q6
 refine Ow.Go.nr (S' := [vb]) (st' := []) ?_
 have f10 := V.keep Kh7 (Ow.ninS (by omega) Ow.nin0)
 have f11 := Ml.keep Kh7 (Ow.ninS (by omega) Ow.nin0)
 have f12 := Ct.keep Kh7 (Ow.ninS (by omega) Ow.nin0)
 have f13 := oc.keep Kh7 (Ow.ninS (by omega) Ow.nin0)
 exact Ow.retV (S' := [vb]) B e42_18 (⟨vb, kv, rfl, ((Keep.refl _ [b, vb]).trans Kh7 (allS (Or.inl (by simp)) all0)), Or.inl rfl, f10, f11, f12, f13, f9, rfl⟩)
theorem gApS (hw : Hw a0 Z) (G : Ow.Glo Z cz sf) (GS : GlS Z) {iof : Value} (GI : Sta Z Z.heap "jdk/internal/util/Preconditions" "IOOBE_FORMATTER" "Ljava/util/function/BiFunction;" iof ∧ iof.isRef = true) {h0 : Heap} (O0 : Old Z n0 h0) {b vb : Nat} {kv : ClassId} {cs : List Int32} (F : Sbd Z h0 b vb kv cs) (hb : n0 ≤ b) (hv : n0 ≤ vb) (hne : b ≠ vb) {sn t : Nat} {kt : ClassId} {ss : List Int32} (F2 : Ow.Chs Z h0 sn t kt ss) (hn1 : sn ≠ b) (hn2 : t ≠ b) (hn3 : t ≠ vb) (hn4 : sn ≠ vb) (hs : cs.length + ss.length ≤ 16) :
    Ow.Con l Z EL1 n0 my43 jdk_68_method_22_code 3 (Option.some (Jvm.ClassFile.FieldType.object "java/lang/AbstractStringBuilder")) [] ({ frames := 8, cells := 1, slots := 32, locals := 116 } : Room) #[(.ref b), (.ref sn)] [vb] h0 (fun v h S' => ∃ v' : Nat, ∃ kr : ClassId, v = some (.ref b) ∧ Keep h0 h [b, vb] ∧ (v' = vb ∨ h0.size ≤ v') ∧ Sbd Z h b v' kr (cs ++ ss) ∧ S' = [v']) := by
 rcases F.2.2.2.2.2 with ⟨oc, oa, ol⟩ | ⟨oc, oa, ou⟩ <;> rcases F2.2.2.2 with ⟨xc, xa, xl⟩ | ⟨xc, xa, xu⟩
 ·refine Ow.Con.enter (Ls := #[vR b, vR sn, .unset]) (plainFor_of_name pn4) O0 (hEW hw) (hSA hw) ?_
  intro p e s m below meth c B
  have z0 := Ow.old_le O0
  have lb : (b : Nat) < h0.size := F.lt
  have lvb : (vb : Nat) < h0.size := F.ltt
  have lsn : (sn : Nat) < h0.size := F2.lt
  have ltt : (t : Nat) < h0.size := F2.ltt
  refine Ow.aloadN (pc' := 1) B e43_0 ?_
  refine Ow.ifnonnullT (pc' := 9) B e43_1 ?_
  refine Ow.aloadN (pc' := 10) B e43_9 ?_
  refine Ow.Go.old (fun o1 => ?_)
  refine Ow.callVirtual (pc' := 13) (W := 0) (k' := 0) (n' := 0) (argsL := []) (rest := []) (K := "java/lang/String") B e43_10 (w246 hw) (w57 hw) (w59 hw) (w59 hw) (w58 hw) (w6 hw) (w60 hw) F2.1 (gLen hw G GS GI o1 F2 (by omega)) pd28 ?_
  intro vq2 h3 S4 q2 zh3
  obtain ⟨rfl, rfl, rfl⟩ := q2
  refine Ow.Go.nr (S' := [vb]) (st' := [(.int (Int32.ofNat ss.length))]) ?_
  refine Ow.istoreN (pc' := 14) (Ls' := #[vR b, vR sn, vI (Int32.ofNat ss.length)]) B e43_13 ?_
  refine Ow.aloadN (pc' := 15) B e43_14 (Ow.aloadN (pc' := 16) B e43_15 ?_)
  refine Ow.getfield (pc' := 19) B e43_16 (w123 hw) Via.refl F.2.2.2.1 ?_
  refine Ow.iloadN (pc' := 20) B e43_19 ?_
  refine Ow.iadd (pc' := 21) (z := (Int32.ofNat (cs.length + ss.length))) (hz := (Ow.nadd _ _)) B e43_20 ?_
  refine Ow.Go.old (fun o5 => ?_)
  refine Ow.callPrivateS (pc' := 24) (W := 0) (k' := 0) (n' := 0) (argsL := [(.int (Int32.ofNat (cs.length + ss.length)))]) (rest := []) (K := "java/lang/StringBuilder") B e43_21 (w125 hw) (w126 hw) (w127 hw) (w128 hw) (w99 hw) (w129 hw) F.1 (gEns hw G GS GI (m' := (cs.length + ss.length)) o5 F (by omega)) pd20 ?_
  intro vq6 h7 S8 q6 zh7
  obtain ⟨rfl, rfl, rfl⟩ := q6
  refine Ow.Go.nr (S' := [vb]) (st' := []) ?_
  refine Ow.aloadN (pc' := 25) B e43_24 (Ow.aloadN (pc' := 26) B e43_25 ?_)
  refine Ow.getfield (pc' := 29) B e43_26 (w123 hw) Via.refl F.2.2.2.1 ?_
  refine Ow.aloadN (pc' := 30) B e43_29 ?_
  refine Ow.Go.old (fun o9 => ?_)
  refine Ow.callPrivateS (pc' := 33) (W := 0) (k' := 0) (n' := 0) (argsL := [(.int (Int32.ofNat cs.length)), (.ref sn)]) (rest := []) (K := "java/lang/StringBuilder") B e43_30 (w247 hw) (w248 hw) (w249 hw) (w250 hw) (w99 hw) (w251 hw) F.1 (gPsa00 hw G GS GI o9 F.1 F.2.1 F.2.2.1 F.2.2.2.1 oc oa F.2.2.2.2.1 ol (by omega) hb F2.1 F2.2.1 xc xa F2.2.2.1 xl hn1 hn2 hn3 hn4 hv hne hs) pd29 ?_
  intro vq10 h11 S12 q10 zh11
  obtain ⟨r13, k14, rfl, Kh11, e15, f16, f17, f18, f19, f20, rfl⟩ := q10
  have lr13 : (r13 : Nat) < h11.size := f20.lt
  refine Ow.Go.norm (S' := [r13, vb]) (st' := []) (fun _ q => q) rfl ?_
  refine Ow.aloadN (pc' := 34) B e43_33 ?_
  refine Ow.dup (pc' := 35) B e43_34 ?_
  refine Ow.getfield (pc' := 38) B e43_35 (w123 hw) Via.refl f18 ?_
  refine Ow.iloadN (pc' := 39) B e43_38 ?_
  refine Ow.iadd (pc' := 40) (z := (Int32.ofNat (cs.length + ss.length))) (hz := (Ow.nadd _ _)) B e43_39 ?_
  have f21 := F.1.keep Kh11
  refine Ow.putfield (pc' := 43) (ty := .int) B e43_40 (w123 hw) Via.refl f18 f21 (Or.inl (w124 hw)) (w90 hw) (Or.inr ⟨by decide, by decide⟩) ?_
  intro h22 Wh22
  have Kh22 := Keep.of_wr Wh22
  have zh22 := Kh22.1
  have f23 : Fld Z h22 b "java/lang/AbstractStringBuilder" "count" "I" (.int (Int32.ofNat (cs.length + ss.length))) := f18.same Wh22
  have f24 : Fld Z h22 b "java/lang/AbstractStringBuilder" "value" "[B" (.ref r13) := f16.other Wh22 (Or.inr (slot_ne (a0 := a0) (C := "java/lang/StringBuilder") (t := (.array .byte)) (t' := .int) (Or.inl (w104 hw)) (Or.inl (w124 hw)) (by decide) (by decide) (by decide)))
  have f25 : Fld Z h22 b "java/lang/AbstractStringBuilder" "maybeLatin1" "Z" (.int 0) := f17.other Wh22 (Or.inr (slot_ne (a0 := a0) (C := "java/lang/StringBuilder") (t := .boolean) (t' := .int) (Or.inl (w302 hw)) (Or.inl (w124 hw)) (by decide) (by decide) (by decide)))
  have f26 : Fld Z h22 b "java/lang/AbstractStringBuilder" "coder" "B" (.int 0) := f19.other Wh22 (Or.inr (slot_ne (a0 := a0) (C := "java/lang/StringBuilder") (t := .byte) (t' := .int) (Or.inl (w106 hw)) (Or.inl (w124 hw)) (by decide) (by decide) (by decide)))
  refine Ow.aloadN (pc' := 44) B e43_43 ?_
  have f27 := f20.keep Kh22 (Ow.ninS (by omega) Ow.nin0)
  have f28 := f21.keep Kh22
  exact Ow.retA (S' := [r13]) (t := (.object "java/lang/AbstractStringBuilder")) B e43_44 (⟨r13, k14, rfl, (((Keep.refl _ [b, vb]).trans Kh11 (allS (Or.inl (by simp)) (allS (Or.inl (by simp)) all0))).trans Kh22 (allS (Or.inl (by simp)) all0)), (by omega), ⟨f28, f24, f25, (by rw [show (cs ++ ss).length = cs.length + ss.length from by simp]; exact f23), (Ow.Rng.app F.2.2.2.2.1 F2.2.2.1), Or.inl ⟨f26, f27, (Ow.Lat.app ol xl)⟩⟩, rfl⟩)
 ·refine Ow.Con.enter (Ls := #[vR b, vR sn, .unset]) (plainFor_of_name pn4) O0 (hEW hw) (hSA hw) ?_
  intro p e s m below meth c B
  have z0 := Ow.old_le O0
  have lb : (b : Nat) < h0.size := F.lt
  have lvb : (vb : Nat) < h0.size := F.ltt
  have lsn : (sn : Nat) < h0.size := F2.lt
  have ltt : (t : Nat) < h0.size := F2.ltt
  refine Ow.aloadN (pc' := 1) B e43_0 ?_
  refine Ow.ifnonnullT (pc' := 9) B e43_1 ?_
  refine Ow.aloadN (pc' := 10) B e43_9 ?_
  refine Ow.Go.old (fun o1 => ?_)
  refine Ow.callVirtual (pc' := 13) (W := 0) (k' := 0) (n' := 0) (argsL := []) (rest := []) (K := "java/lang/String") B e43_10 (w246 hw) (w57 hw) (w59 hw) (w59 hw) (w58 hw) (w6 hw) (w60 hw) F2.1 (gLen hw G GS GI o1 F2 (by omega)) pd28 ?_
  intro vq2 h3 S4 q2 zh3
  obtain ⟨rfl, rfl, rfl⟩ := q2
  refine Ow.Go.nr (S' := [vb]) (st' := [(.int (Int32.ofNat ss.length))]) ?_
  refine Ow.istoreN (pc' := 14) (Ls' := #[vR b, vR sn, vI (Int32.ofNat ss.length)]) B e43_13 ?_
  refine Ow.aloadN (pc' := 15) B e43_14 (Ow.aloadN (pc' := 16) B e43_15 ?_)
  refine Ow.getfield (pc' := 19) B e43_16 (w123 hw) Via.refl F.2.2.2.1 ?_
  refine Ow.iloadN (pc' := 20) B e43_19 ?_
  refine Ow.iadd (pc' := 21) (z := (Int32.ofNat (cs.length + ss.length))) (hz := (Ow.nadd _ _)) B e43_20 ?_
  refine Ow.Go.old (fun o5 => ?_)
  refine Ow.callPrivateS (pc' := 24) (W := 0) (k' := 0) (n' := 0) (argsL := [(.int (Int32.ofNat (cs.length + ss.length)))]) (rest := []) (K := "java/lang/StringBuilder") B e43_21 (w125 hw) (w126 hw) (w127 hw) (w128 hw) (w99 hw) (w129 hw) F.1 (gEns hw G GS GI (m' := (cs.length + ss.length)) o5 F (by omega)) pd20 ?_
  intro vq6 h7 S8 q6 zh7
  obtain ⟨rfl, rfl, rfl⟩ := q6
  refine Ow.Go.nr (S' := [vb]) (st' := []) ?_
  refine Ow.aloadN (pc' := 25) B e43_24 (Ow.aloadN (pc' := 26) B e43_25 ?_)
  refine Ow.getfield (pc' := 29) B e43_26 (w123 hw) Via.refl F.2.2.2.1 ?_
  refine Ow.aloadN (pc' := 30) B e43_29 ?_
  refine Ow.Go.old (fun o9 => ?_)
  refine Ow.callPrivateS (pc' := 33) (W := 0) (k' := 1) (n' := 32) (argsL := [(.int (Int32.ofNat cs.length)), (.ref sn)]) (rest := []) (K := "java/lang/StringBuilder") B e43_30 (w247 hw) (w248 hw) (w249 hw) (w250 hw) (w99 hw) (w251 hw) F.1 (gPsa01 hw G GS GI o9 F.1 F.2.1 F.2.2.1 F.2.2.2.1 oc oa F.2.2.2.2.1 ol (by omega) hb F2.1 F2.2.1 xc xa F2.2.2.1 hn1 hn2 hn3 hn4 hv hne hs) pd29 ?_
  intro vq10 h11 S12 q10 zh11
  obtain ⟨r13, k14, rfl, Kh11, e15, f16, f17, f18, f19, f20, rfl⟩ := q10
  have lr13 : (r13 : Nat) < h11.size := f20.lt
  refine Ow.Go.norm (S' := [r13, vb]) (st' := []) (fun _ q => q) rfl ?_
  refine Ow.aloadN (pc' := 34) B e43_33 ?_
  refine Ow.dup (pc' := 35) B e43_34 ?_
  refine Ow.getfield (pc' := 38) B e43_35 (w123 hw) Via.refl f18 ?_
  refine Ow.iloadN (pc' := 39) B e43_38 ?_
  refine Ow.iadd (pc' := 40) (z := (Int32.ofNat (cs.length + ss.length))) (hz := (Ow.nadd _ _)) B e43_39 ?_
  have f21 := F.1.keep Kh11
  refine Ow.putfield (pc' := 43) (ty := .int) B e43_40 (w123 hw) Via.refl f18 f21 (Or.inl (w124 hw)) (w90 hw) (Or.inr ⟨by decide, by decide⟩) ?_
  intro h22 Wh22
  have Kh22 := Keep.of_wr Wh22
  have zh22 := Kh22.1
  have f23 : Fld Z h22 b "java/lang/AbstractStringBuilder" "count" "I" (.int (Int32.ofNat (cs.length + ss.length))) := f18.same Wh22
  have f24 : Fld Z h22 b "java/lang/AbstractStringBuilder" "value" "[B" (.ref r13) := f16.other Wh22 (Or.inr (slot_ne (a0 := a0) (C := "java/lang/StringBuilder") (t := (.array .byte)) (t' := .int) (Or.inl (w104 hw)) (Or.inl (w124 hw)) (by decide) (by decide) (by decide)))
  have f25 : Fld Z h22 b "java/lang/AbstractStringBuilder" "maybeLatin1" "Z" (.int 0) := f17.other Wh22 (Or.inr (slot_ne (a0 := a0) (C := "java/lang/StringBuilder") (t := .boolean) (t' := .int) (Or.inl (w302 hw)) (Or.inl (w124 hw)) (by decide) (by decide) (by decide)))
  have f26 : Fld Z h22 b "java/lang/AbstractStringBuilder" "coder" "B" (.int 1) := f19.other Wh22 (Or.inr (slot_ne (a0 := a0) (C := "java/lang/StringBuilder") (t := .byte) (t' := .int) (Or.inl (w106 hw)) (Or.inl (w124 hw)) (by decide) (by decide) (by decide)))
  refine Ow.aloadN (pc' := 44) B e43_43 ?_
  have f27 := f20.keep Kh22 (Ow.ninS (by omega) Ow.nin0)
  have f28 := f21.keep Kh22
  exact Ow.retA (S' := [r13]) (t := (.object "java/lang/AbstractStringBuilder")) B e43_44 (⟨r13, k14, rfl, (((Keep.refl _ [b, vb]).trans Kh11 (allS (Or.inl (by simp)) (allS (Or.inl (by simp)) all0))).trans Kh22 (allS (Or.inl (by simp)) all0)), (by omega), ⟨f28, f24, f25, (by rw [show (cs ++ ss).length = cs.length + ss.length from by simp]; exact f23), (Ow.Rng.app F.2.2.2.2.1 F2.2.2.1), Or.inr ⟨f26, f27, (Ow.hiR xu)⟩⟩, rfl⟩)
 ·refine Ow.Con.enter (Ls := #[vR b, vR sn, .unset]) (plainFor_of_name pn4) O0 (hEW hw) (hSA hw) ?_
  intro p e s m below meth c B
  have z0 := Ow.old_le O0
  have lb : (b : Nat) < h0.size := F.lt
  have lvb : (vb : Nat) < h0.size := F.ltt
  have lsn : (sn : Nat) < h0.size := F2.lt
  have ltt : (t : Nat) < h0.size := F2.ltt
  refine Ow.aloadN (pc' := 1) B e43_0 ?_
  refine Ow.ifnonnullT (pc' := 9) B e43_1 ?_
  refine Ow.aloadN (pc' := 10) B e43_9 ?_
  refine Ow.Go.old (fun o1 => ?_)
  refine Ow.callVirtual (pc' := 13) (W := 0) (k' := 0) (n' := 0) (argsL := []) (rest := []) (K := "java/lang/String") B e43_10 (w246 hw) (w57 hw) (w59 hw) (w59 hw) (w58 hw) (w6 hw) (w60 hw) F2.1 (gLen hw G GS GI o1 F2 (by omega)) pd28 ?_
  intro vq2 h3 S4 q2 zh3
  obtain ⟨rfl, rfl, rfl⟩ := q2
  refine Ow.Go.nr (S' := [vb]) (st' := [(.int (Int32.ofNat ss.length))]) ?_
  refine Ow.istoreN (pc' := 14) (Ls' := #[vR b, vR sn, vI (Int32.ofNat ss.length)]) B e43_13 ?_
  refine Ow.aloadN (pc' := 15) B e43_14 (Ow.aloadN (pc' := 16) B e43_15 ?_)
  refine Ow.getfield (pc' := 19) B e43_16 (w123 hw) Via.refl F.2.2.2.1 ?_
  refine Ow.iloadN (pc' := 20) B e43_19 ?_
  refine Ow.iadd (pc' := 21) (z := (Int32.ofNat (cs.length + ss.length))) (hz := (Ow.nadd _ _)) B e43_20 ?_
  refine Ow.Go.old (fun o5 => ?_)
  refine Ow.callPrivateS (pc' := 24) (W := 0) (k' := 0) (n' := 0) (argsL := [(.int (Int32.ofNat (cs.length + ss.length)))]) (rest := []) (K := "java/lang/StringBuilder") B e43_21 (w125 hw) (w126 hw) (w127 hw) (w128 hw) (w99 hw) (w129 hw) F.1 (gEns hw G GS GI (m' := (cs.length + ss.length)) o5 F (by omega)) pd20 ?_
  intro vq6 h7 S8 q6 zh7
  obtain ⟨rfl, rfl, rfl⟩ := q6
  refine Ow.Go.nr (S' := [vb]) (st' := []) ?_
  refine Ow.aloadN (pc' := 25) B e43_24 (Ow.aloadN (pc' := 26) B e43_25 ?_)
  refine Ow.getfield (pc' := 29) B e43_26 (w123 hw) Via.refl F.2.2.2.1 ?_
  refine Ow.aloadN (pc' := 30) B e43_29 ?_
  refine Ow.Go.old (fun o9 => ?_)
  refine Ow.callPrivateS (pc' := 33) (W := 0) (k' := 0) (n' := 0) (argsL := [(.int (Int32.ofNat cs.length)), (.ref sn)]) (rest := []) (K := "java/lang/StringBuilder") B e43_30 (w247 hw) (w248 hw) (w249 hw) (w250 hw) (w99 hw) (w251 hw) F.1 (gPsa10 hw G GS GI o9 F.1 F.2.1 F.2.2.1 F.2.2.2.1 oc oa F.2.2.2.2.1 (by omega) hb F2.1 F2.2.1 xc xa F2.2.2.1 xl hn1 hn2 hn3 hn4 hv hne hs) pd29 ?_
  intro vq10 h11 S12 q10 zh11
  obtain ⟨r13, k14, rfl, Kh11, e15, f16, f17, f18, f19, f20, rfl⟩ := q10
  have lr13 : (r13 : Nat) < h11.size := f20.lt
  refine Ow.Go.norm (S' := [r13, vb]) (st' := []) (fun _ q => q) rfl ?_
  refine Ow.aloadN (pc' := 34) B e43_33 ?_
  refine Ow.dup (pc' := 35) B e43_34 ?_
  refine Ow.getfield (pc' := 38) B e43_35 (w123 hw) Via.refl f18 ?_
  refine Ow.iloadN (pc' := 39) B e43_38 ?_
  refine Ow.iadd (pc' := 40) (z := (Int32.ofNat (cs.length + ss.length))) (hz := (Ow.nadd _ _)) B e43_39 ?_
  have f21 := F.1.keep Kh11
  refine Ow.putfield (pc' := 43) (ty := .int) B e43_40 (w123 hw) Via.refl f18 f21 (Or.inl (w124 hw)) (w90 hw) (Or.inr ⟨by decide, by decide⟩) ?_
  intro h22 Wh22
  have Kh22 := Keep.of_wr Wh22
  have zh22 := Kh22.1
  have f23 : Fld Z h22 b "java/lang/AbstractStringBuilder" "count" "I" (.int (Int32.ofNat (cs.length + ss.length))) := f18.same Wh22
  have f24 : Fld Z h22 b "java/lang/AbstractStringBuilder" "value" "[B" (.ref r13) := f16.other Wh22 (Or.inr (slot_ne (a0 := a0) (C := "java/lang/StringBuilder") (t := (.array .byte)) (t' := .int) (Or.inl (w104 hw)) (Or.inl (w124 hw)) (by decide) (by decide) (by decide)))
  have f25 : Fld Z h22 b "java/lang/AbstractStringBuilder" "maybeLatin1" "Z" (.int 0) := f17.other Wh22 (Or.inr (slot_ne (a0 := a0) (C := "java/lang/StringBuilder") (t := .boolean) (t' := .int) (Or.inl (w302 hw)) (Or.inl (w124 hw)) (by decide) (by decide) (by decide)))
  have f26 : Fld Z h22 b "java/lang/AbstractStringBuilder" "coder" "B" (.int 1) := f19.other Wh22 (Or.inr (slot_ne (a0 := a0) (C := "java/lang/StringBuilder") (t := .byte) (t' := .int) (Or.inl (w106 hw)) (Or.inl (w124 hw)) (by decide) (by decide) (by decide)))
  refine Ow.aloadN (pc' := 44) B e43_43 ?_
  have f27 := f20.keep Kh22 (Ow.ninS (by omega) Ow.nin0)
  have f28 := f21.keep Kh22
  exact Ow.retA (S' := [r13]) (t := (.object "java/lang/AbstractStringBuilder")) B e43_44 (⟨r13, k14, rfl, (((Keep.refl _ [b, vb]).trans Kh11 (allS (Or.inl (by simp)) (allS (Or.inl (by simp)) all0))).trans Kh22 (allS (Or.inl (by simp)) all0)), (by omega), ⟨f28, f24, f25, (by rw [show (cs ++ ss).length = cs.length + ss.length from by simp]; exact f23), (Ow.Rng.app F.2.2.2.2.1 F2.2.2.1), Or.inr ⟨f26, f27, (Ow.hiL ou)⟩⟩, rfl⟩)
 ·refine Ow.Con.enter (Ls := #[vR b, vR sn, .unset]) (plainFor_of_name pn4) O0 (hEW hw) (hSA hw) ?_
  intro p e s m below meth c B
  have z0 := Ow.old_le O0
  have lb : (b : Nat) < h0.size := F.lt
  have lvb : (vb : Nat) < h0.size := F.ltt
  have lsn : (sn : Nat) < h0.size := F2.lt
  have ltt : (t : Nat) < h0.size := F2.ltt
  refine Ow.aloadN (pc' := 1) B e43_0 ?_
  refine Ow.ifnonnullT (pc' := 9) B e43_1 ?_
  refine Ow.aloadN (pc' := 10) B e43_9 ?_
  refine Ow.Go.old (fun o1 => ?_)
  refine Ow.callVirtual (pc' := 13) (W := 0) (k' := 0) (n' := 0) (argsL := []) (rest := []) (K := "java/lang/String") B e43_10 (w246 hw) (w57 hw) (w59 hw) (w59 hw) (w58 hw) (w6 hw) (w60 hw) F2.1 (gLen hw G GS GI o1 F2 (by omega)) pd28 ?_
  intro vq2 h3 S4 q2 zh3
  obtain ⟨rfl, rfl, rfl⟩ := q2
  refine Ow.Go.nr (S' := [vb]) (st' := [(.int (Int32.ofNat ss.length))]) ?_
  refine Ow.istoreN (pc' := 14) (Ls' := #[vR b, vR sn, vI (Int32.ofNat ss.length)]) B e43_13 ?_
  refine Ow.aloadN (pc' := 15) B e43_14 (Ow.aloadN (pc' := 16) B e43_15 ?_)
  refine Ow.getfield (pc' := 19) B e43_16 (w123 hw) Via.refl F.2.2.2.1 ?_
  refine Ow.iloadN (pc' := 20) B e43_19 ?_
  refine Ow.iadd (pc' := 21) (z := (Int32.ofNat (cs.length + ss.length))) (hz := (Ow.nadd _ _)) B e43_20 ?_
  refine Ow.Go.old (fun o5 => ?_)
  refine Ow.callPrivateS (pc' := 24) (W := 0) (k' := 0) (n' := 0) (argsL := [(.int (Int32.ofNat (cs.length + ss.length)))]) (rest := []) (K := "java/lang/StringBuilder") B e43_21 (w125 hw) (w126 hw) (w127 hw) (w128 hw) (w99 hw) (w129 hw) F.1 (gEns hw G GS GI (m' := (cs.length + ss.length)) o5 F (by omega)) pd20 ?_
  intro vq6 h7 S8 q6 zh7
  obtain ⟨rfl, rfl, rfl⟩ := q6
  refine Ow.Go.nr (S' := [vb]) (st' := []) ?_
  refine Ow.aloadN (pc' := 25) B e43_24 (Ow.aloadN (pc' := 26) B e43_25 ?_)
  refine Ow.getfield (pc' := 29) B e43_26 (w123 hw) Via.refl F.2.2.2.1 ?_
  refine Ow.aloadN (pc' := 30) B e43_29 ?_
  refine Ow.Go.old (fun o9 => ?_)
  refine Ow.callPrivateS (pc' := 33) (W := 0) (k' := 0) (n' := 0) (argsL := [(.int (Int32.ofNat cs.length)), (.ref sn)]) (rest := []) (K := "java/lang/StringBuilder") B e43_30 (w247 hw) (w248 hw) (w249 hw) (w250 hw) (w99 hw) (w251 hw) F.1 (gPsa11 hw G GS GI o9 F.1 F.2.1 F.2.2.1 F.2.2.2.1 oc oa F.2.2.2.2.1 (by omega) hb F2.1 F2.2.1 xc xa F2.2.2.1 hn1 hn2 hn3 hn4 hv hne hs) pd29 ?_
  intro vq10 h11 S12 q10 zh11
  obtain ⟨r13, k14, rfl, Kh11, e15, f16, f17, f18, f19, f20, rfl⟩ := q10
  have lr13 : (r13 : Nat) < h11.size := f20.lt
  refine Ow.Go.norm (S' := [r13, vb]) (st' := []) (fun _ q => q) rfl ?_
  refine Ow.aloadN (pc' := 34) B e43_33 ?_
  refine Ow.dup (pc' := 35) B e43_34 ?_
  refine Ow.getfield (pc' := 38) B e43_35 (w123 hw) Via.refl f18 ?_
  refine Ow.iloadN (pc' := 39) B e43_38 ?_
  refine Ow.iadd (pc' := 40) (z := (Int32.ofNat (cs.length + ss.length))) (hz := (Ow.nadd _ _)) B e43_39 ?_
  have f21 := F.1.keep Kh11
  refine Ow.putfield (pc' := 43) (ty := .int) B e43_40 (w123 hw) Via.refl f18 f21 (Or.inl (w124 hw)) (w90 hw) (Or.inr ⟨by decide, by decide⟩) ?_
  intro h22 Wh22
  have Kh22 := Keep.of_wr Wh22
  have zh22 := Kh22.1
  have f23 : Fld Z h22 b "java/lang/AbstractStringBuilder" "count" "I" (.int (Int32.ofNat (cs.length + ss.length))) := f18.same Wh22
  have f24 : Fld Z h22 b "java/lang/AbstractStringBuilder" "value" "[B" (.ref r13) := f16.other Wh22 (Or.inr (slot_ne (a0 := a0) (C := "java/lang/StringBuilder") (t := (.array .byte)) (t' := .int) (Or.inl (w104 hw)) (Or.inl (w124 hw)) (by decide) (by decide) (by decide)))
  have f25 : Fld Z h22 b "java/lang/AbstractStringBuilder" "maybeLatin1" "Z" (.int 0) := f17.other Wh22 (Or.inr (slot_ne (a0 := a0) (C := "java/lang/StringBuilder") (t := .boolean) (t' := .int) (Or.inl (w302 hw)) (Or.inl (w124 hw)) (by decide) (by decide) (by decide)))
  have f26 : Fld Z h22 b "java/lang/AbstractStringBuilder" "coder" "B" (.int 1) := f19.other Wh22 (Or.inr (slot_ne (a0 := a0) (C := "java/lang/StringBuilder") (t := .byte) (t' := .int) (Or.inl (w106 hw)) (Or.inl (w124 hw)) (by decide) (by decide) (by decide)))
  refine Ow.aloadN (pc' := 44) B e43_43 ?_
  have f27 := f20.keep Kh22 (Ow.ninS (by omega) Ow.nin0)
  have f28 := f21.keep Kh22
  exact Ow.retA (S' := [r13]) (t := (.object "java/lang/AbstractStringBuilder")) B e43_44 (⟨r13, k14, rfl, (((Keep.refl _ [b, vb]).trans Kh11 (allS (Or.inl (by simp)) (allS (Or.inl (by simp)) all0))).trans Kh22 (allS (Or.inl (by simp)) all0)), (by omega), ⟨f28, f24, f25, (by rw [show (cs ++ ss).length = cs.length + ss.length from by simp]; exact f23), (Ow.Rng.app F.2.2.2.2.1 F2.2.2.1), Or.inr ⟨f26, f27, (Ow.hiL ou)⟩⟩, rfl⟩)
theorem gAppS (hw : Hw a0 Z) (G : Ow.Glo Z cz sf) (GS : GlS Z) {iof : Value} (GI : Sta Z Z.heap "jdk/internal/util/Preconditions" "IOOBE_FORMATTER" "Ljava/util/function/BiFunction;" iof ∧ iof.isRef = true) {h0 : Heap} (O0 : Old Z n0 h0) {b vb : Nat} {kv : ClassId} {cs : List Int32} (F : Sbd Z h0 b vb kv cs) (hb : n0 ≤ b) (hv : n0 ≤ vb) (hne : b ≠ vb) {sn t : Nat} {kt : ClassId} {ss : List Int32} (F2 : Ow.Chs Z h0 sn t kt ss) (hn1 : sn ≠ b) (hn2 : t ≠ b) (hn3 : t ≠ vb) (hn4 : sn ≠ vb) (hs : cs.length + ss.length ≤ 16) :
    Ow.Con l Z EL1 n0 my44 jdk_67_method_7_code 2 (Option.some (Jvm.ClassFile.FieldType.object "java/lang/StringBuilder")) [] ({ frames := 9, cells := 1, slots := 32, locals := 130 } : Room) #[(.ref b), (.ref sn)] [vb] h0 (fun v h S' => ∃ v' : Nat, ∃ kr : ClassId, v = some (.ref b) ∧ Keep h0 h [b, vb] ∧ (v' = vb ∨ h0.size ≤ v') ∧ Sbd Z h b v' kr (cs ++ ss) ∧ S' = [v']) := by
 refine Ow.Con.enter (Ls := #[vR b, vR sn]) (plainFor_of_name pn5) O0 (hEW hw) (hSA hw) ?_
 intro p e s m below meth c B
 have z0 := Ow.old_le O0
 have lb : (b : Nat) < h0.size := F.lt
 have lvb : (vb : Nat) < h0.size := F.ltt
 have lsn : (sn : Nat) < h0.size := F2.lt
 have ltt : (t : Nat) < h0.size := F2.ltt
 refine Ow.aloadN (pc' := 1) B e44_0 (Ow.aloadN (pc' := 2) B e44_1 ?_)
 refine Ow.Go.old (fun o1 => ?_)
 refine Ow.callSuper (pc' := 5) (W := 0) (k' := 1) (n' := 32) (argsL := [(.ref sn)]) (rest := []) (K := "java/lang/StringBuilder") B e44_2 (w242 hw) (w243 hw) (w99 hw) (w245 hw) (w114 hw) (w128 hw) (F).1 (gApS hw G GS GI o1 F hb hv hne F2 hn1 hn2 hn3 hn4 hs) pd30 ?_
 intro vq2 h3 S4 q2 zh3
 obtain ⟨t5, k6, rfl, Kh3, e8, f7, rfl⟩ := q2
 have lt5 : (t5 : Nat) < h3.size := f7.ltt
 refine Ow.Go.norm (S' := [t5, vb]) (st' := [(.ref b)]) (fun _ q => q) rfl ?_
 refine Ow.pop (pc' := 6) B e44_5 ?_
 refine Ow.aloadN (pc' := 7) B e44_6 ?_
 exact Ow.retA (S' := [t5]) (t := (.object "java/lang/StringBuilder")) B e44_7 (⟨t5, k6, rfl, ((Keep.refl _ [b, vb]).trans Kh3 (allS (Or.inl (by simp)) (allS (Or.inl (by simp)) all0))), (by omega), f7, rfl⟩)
theorem con_init_22 (hw : Hw a0 Z) (G : Ow.Glo Z cz sf) (GS : GlS Z) {iof : Value} (GI : Sta Z Z.heap "jdk/internal/util/Preconditions" "IOOBE_FORMATTER" "Ljava/util/function/BiFunction;" iof ∧ iof.isRef = true) {pa0 : Nat} {h0 : Heap} (O0 : Old Z n0 h0) (hf0 : Exa Z h0 pa0 "java/lang/StringBuilder") (hf1 : Fld Z h0 pa0 "java/lang/AbstractStringBuilder" "coder" "B" (.int 0)) (hf2 : Fld Z h0 pa0 "java/lang/AbstractStringBuilder" "count" "I" (.int 0)) (hf3 : Fld Z h0 pa0 "java/lang/AbstractStringBuilder" "maybeLatin1" "Z" (.int 0)) (hf4 : Fld Z h0 pa0 "java/lang/AbstractStringBuilder" "value" "[B" .null) (hn0 : n0 ≤ pa0) :
    Ow.Con l Z EL1 n0 my45 jdk_68_method_2_code 2 (Option.none : Option Jvm.ClassFile.FieldType) [] ({ frames := 1, cells := 1, slots := 16, locals := 12 } : Room) #[(.ref pa0), (.int 16)] [] h0 (fun v h S' => (∃ r0 : Nat, ∃ k0 : ClassId, v = none ∧ Keep h0 h [pa0] ∧ h0.size ≤ r0 ∧ Exa Z h pa0 "java/lang/StringBuilder" ∧ Fld Z h pa0 "java/lang/AbstractStringBuilder" "coder" "B" (.int 0) ∧ Fld Z h pa0 "java/lang/AbstractStringBuilder" "count" "I" (.int 0) ∧ Fld Z h pa0 "java/lang/AbstractStringBuilder" "maybeLatin1" "Z" (.int 0) ∧ Fld Z h pa0 "java/lang/AbstractStringBuilder" "value" "[B" (.ref r0) ∧ Arv Z h r0 k0 .byte (16 : Int32) [(.int 0), (.int 0), (.int 0), (.int 0), (.int 0), (.int 0), (.int 0), (.int 0), (.int 0), (.int 0), (.int 0), (.int 0), (.int 0), (.int 0), (.int 0), (.int 0)] (.int 0) ∧ S' = [r0])) := by
 refine Ow.Con.enter (Ls := #[vR pa0, vI 16]) (plainFor_of_name pn4) O0 (hEW hw) (hSA hw) ?_
 intro p e s m below meth c B
 have z0 := Ow.old_le O0
 have lpa0 : (pa0 : Nat) < h0.size := hf0.lt
 refine Ow.aloadN (pc' := 1) B e47_0 ?_
 refine Ow.objInit (pc' := 4) (W := 0) B e47_1 (w101 hw) (w16 hw) (w17 hw) ?_
 refine Ow.getstatic (pc' := 7) B e47_4 (w102 hw) Via.refl G.1 ?_
 refine Ow.ifF (pc' := 10) B e47_7 (feq (G.2.1)).1 ?_
 refine Ow.aloadN (pc' := 11) B e47_10 (Ow.iloadN (pc' := 12) B e47_11 ?_)
 refine Ow.newArr (pc' := 14) (k' := 1) (n' := 16) (cap := 16) B e47_12 (w19 hw) (by decide) (by decide) ?_
 intro h2 a1 ka1 ga1 ba1 Kh2 V0a1
 have zh2 := Kh2.1
 have la1 : (a1 : Nat) < h2.size := V0a1.lt
 have Va1 : Arv Z h2 a1 ka1 .byte (16 : Int32) [(.int 0), (.int 0), (.int 0), (.int 0), (.int 0), (.int 0), (.int 0), (.int 0), (.int 0), (.int 0), (.int 0), (.int 0), (.int 0), (.int 0), (.int 0), (.int 0)] (.int 0) := V0a1.pad (pad_rep [] (.int 0) 16)
 have f3 := hf4.keep Kh2 Ow.nin0
 have f4 := hf0.keep Kh2
 refine Ow.putfield (pc' := 17) (ty := (.array .byte)) B e47_14 (w103 hw) Via.refl f3 f4 (Or.inl (w104 hw)) (w90 hw) (Or.inr ⟨by decide, by decide⟩) ?_
 intro h5 Wh5
 have f6 := hf1.keep Kh2 Ow.nin0
 have f7 := hf2.keep Kh2 Ow.nin0
 have f8 := hf3.keep Kh2 Ow.nin0
 have Kh5 := Keep.of_wr Wh5
 have zh5 := Kh5.1
 have f9 : Fld Z h5 pa0 "java/lang/AbstractStringBuilder" "value" "[B" (.ref a1) := f3.same Wh5
 have f10 : Fld Z h5 pa0 "java/lang/AbstractStringBuilder" "coder" "B" (.int 0) := f6.other Wh5 (Or.inr (slot_ne (a0 := a0) (C := "java/lang/StringBuilder") (t := .byte) (t' := (.array .byte)) (Or.inl (w106 hw)) (Or.inl (w104 hw)) (by decide) (by decide) (by decide)))
 have f11 : Fld Z h5 pa0 "java/lang/AbstractStringBuilder" "count" "I" (.int 0) := f7.other Wh5 (Or.inr (slot_ne (a0 := a0) (C := "java/lang/StringBuilder") (t := .int) (t' := (.array .byte)) (Or.inl (w124 hw)) (Or.inl (w104 hw)) (by decide) (by decide) (by decide)))
 have f12 : Fld Z h5 pa0 "java/lang/AbstractStringBuilder" "maybeLatin1" "Z" (.int 0) := f8.other Wh5 (Or.inr (slot_ne (a0 := a0) (C := "java/lang/StringBuilder") (t := .boolean) (t' := (.array .byte)) (Or.inl (w302 hw)) (Or.inl (w104 hw)) (by decide) (by decide) (by decide)))
 refine Ow.aloadN (pc' := 18) B e47_17 (Ow.iconst (pc' := 19) (x := 0) B e47_18 ?_)
 have f13 := f4.keep Kh5
 refine Ow.putfield (pc' := 22) (ty := .byte) B e47_19 (w105 hw) Via.refl f10 f13 (Or.inl (w106 hw)) (w90 hw) (Or.inr ⟨by decide, by decide⟩) ?_
 intro h14 Wh14
 have Kh14 := Keep.of_wr Wh14
 have zh14 := Kh14.1
 have f15 : Fld Z h14 pa0 "java/lang/AbstractStringBuilder" "coder" "B" (.int 0) := f10.same Wh14
 have f16 : Fld Z h14 pa0 "java/lang/AbstractStringBuilder" "count" "I" (.int 0) := f11.other Wh14 (Or.inr (slot_ne (a0 := a0) (C := "java/lang/StringBuilder") (t := .int) (t' := .byte) (Or.inl (w124 hw)) (Or.inl (w106 hw)) (by decide) (by decide) (by decide)))
 have f17 : Fld Z h14 pa0 "java/lang/AbstractStringBuilder" "maybeLatin1" "Z" (.int 0) := f12.other Wh14 (Or.inr (slot_ne (a0 := a0) (C := "java/lang/StringBuilder") (t := .boolean) (t' := .byte) (Or.inl (w302 hw)) (Or.inl (w106 hw)) (by decide) (by decide) (by decide)))
 have f18 : Fld Z h14 pa0 "java/lang/AbstractStringBuilder" "value" "[B" (.ref a1) := f9.other Wh14 (Or.inr (slot_ne (a0 := a0) (C := "java/lang/StringBuilder") (t := (.array .byte)) (t' := .byte) (Or.inl (w104 hw)) (Or.inl (w106 hw)) (by decide) (by decide) (by decide)))
 refine Ow.goto (pc' := 38) B e47_22 ?_
 have f19 := f13.keep Kh14
 have f20 := Va1.keep Kh5 (Ow.ninS (by omega) Ow.nin0)
 have f21 := f20.keep Kh14 (Ow.ninS (by omega) Ow.nin0)
 exact Ow.retV (S' := [a1]) B e47_38 (⟨a1, ka1, rfl, ((((Keep.refl _ [pa0]).trans Kh2 (fun _ q => nomatch q)).trans Kh5 (allS (Or.inl (by simp)) all0)).trans Kh14 (allS (Or.inl (by simp)) all0)), (by omega), f19, f15, f16, f17, f18, f21, rfl⟩)
theorem con_init_23 (hw : Hw a0 Z) (G : Ow.Glo Z cz sf) (GS : GlS Z) {iof : Value} (GI : Sta Z Z.heap "jdk/internal/util/Preconditions" "IOOBE_FORMATTER" "Ljava/util/function/BiFunction;" iof ∧ iof.isRef = true) {pa0 : Nat} {h0 : Heap} (O0 : Old Z n0 h0) (hf0 : Exa Z h0 pa0 "java/lang/StringBuilder") (hf1 : Fld Z h0 pa0 "java/lang/AbstractStringBuilder" "coder" "B" (.int 0)) (hf2 : Fld Z h0 pa0 "java/lang/AbstractStringBuilder" "count" "I" (.int 0)) (hf3 : Fld Z h0 pa0 "java/lang/AbstractStringBuilder" "maybeLatin1" "Z" (.int 0)) (hf4 : Fld Z h0 pa0 "java/lang/AbstractStringBuilder" "value" "[B" .null) (hn0 : n0 ≤ pa0) :
    Ow.Con l Z EL1 n0 my46 jdk_67_method_1_code 1 (Option.none : Option Jvm.ClassFile.FieldType) [] ({ frames := 2, cells := 1, slots := 16, locals := 25 } : Room) #[(.ref pa0)] [] h0 (fun v h S' => (∃ r0 : Nat, ∃ k0 : ClassId, v = none ∧ Keep h0 h [pa0] ∧ h0.size ≤ r0 ∧ Exa Z h pa0 "java/lang/StringBuilder" ∧ Fld Z h pa0 "java/lang/AbstractStringBuilder" "coder" "B" (.int 0) ∧ Fld Z h pa0 "java/lang/AbstractStringBuilder" "count" "I" (.int 0) ∧ Fld Z h pa0 "java/lang/AbstractStringBuilder" "maybeLatin1" "Z" (.int 0) ∧ Fld Z h pa0 "java/lang/AbstractStringBuilder" "value" "[B" (.ref r0) ∧ Arv Z h r0 k0 .byte (16 : Int32) [(.int 0), (.int 0), (.int 0), (.int 0), (.int 0), (.int 0), (.int 0), (.int 0), (.int 0), (.int 0), (.int 0), (.int 0), (.int 0), (.int 0), (.int 0), (.int 0)] (.int 0) ∧ S' = [r0])) := by
 refine Ow.Con.enter (Ls := #[vR pa0]) (plainFor_of_name pn5) O0 (hEW hw) (hSA hw) ?_
 intro p e s m below meth c B
 have z0 := Ow.old_le O0
 have lpa0 : (pa0 : Nat) < h0.size := hf0.lt
 refine Ow.aloadN (pc' := 1) B e46_0 (Ow.bipush (pc' := 3) (x := 16) B e46_1 ?_)
 refine Ow.Go.old (fun o1 => ?_)
 refine Ow.callInit (pc' := 6) (W := 0) (k' := 1) (n' := 16) (argsL := [(.int 16)]) (rest := []) B e46_3 (w95 hw) (w96 hw) (w99 hw) (w100 hw) (con_init_22 hw G GS GI (pa0 := pa0) o1 hf0 hf1 hf2 hf3 hf4 (by omega)) pd20 ?_
 intro vq2 h3 S4 q2 zh3
 obtain ⟨r5, k6, rfl, Kh3, br5, f7, f8, f9, f10, f11, f12, rfl⟩ := q2
 have lr5 : (r5 : Nat) < h3.size := f12.lt
 refine Ow.Go.norm (S' := [r5]) (st' := []) (fun _ q => q) rfl ?_
 exact Ow.retV (S' := [r5]) B e46_6 (⟨r5, k6, rfl, ((Keep.refl _ [pa0]).trans Kh3 (allS (Or.inl (by simp)) all0)), (by omega), f7, f8, f9, f10, f11, f12, rfl⟩)
theorem gBldA (hw : Hw a0 Z) (G : Ow.Glo Z cz sf) (GS : GlS Z) {iof : Value} (GI : Sta Z Z.heap "jdk/internal/util/Preconditions" "IOOBE_FORMATTER" "Ljava/util/function/BiFunction;" iof ∧ iof.isRef = true) {h0 : Heap} (O0 : Old Z n0 h0) {tw : Nat} (E : Exa Z h0 tw "com/example/ply3/ply3/TextWriter") (hw0 : n0 ≤ tw) (X1 : Fld Z h0 tw "com/example/ply3/ply3/TextWriter" "text" "Ljava/lang/StringBuilder;" .null) (X2 : Fld Z h0 tw "com/example/ply3/ply3/TextWriter" "whole" "Ljava/lang/String;" .null) :
    Ow.Con l Z EL1 n0 my47 prog_33_method_9_code 1 (Option.some (Jvm.ClassFile.FieldType.object "java/lang/StringBuilder")) [] ({ frames := 3, cells := 2, slots := 20, locals := 39 } : Room) #[(.ref tw)] [] h0 (fun v h S' => ∃ b' : Nat, ∃ t' : Nat, ∃ kr : ClassId, v = some (.ref b') ∧ Keep h0 h [tw] ∧ h0.size ≤ b' ∧ h0.size ≤ t' ∧ b' ≠ t' ∧ Fld Z h tw "com/example/ply3/ply3/TextWriter" "text" "Ljava/lang/StringBuilder;" (.ref b') ∧ Fld Z h tw "com/example/ply3/ply3/TextWriter" "whole" "Ljava/lang/String;" .null ∧ Sbd Z h b' t' kr ([]) ∧ S' = [t']) := by
 refine Ow.Con.enter (Ls := #[vR tw]) (plainFor_of_name pn6) O0 (hEW hw) (hSA hw) ?_
 intro p e s m below meth c B
 have z0 := Ow.old_le O0
 have ltw : (tw : Nat) < h0.size := E.lt
 refine Ow.aloadN (pc' := 1) B e45_0 ?_
 refine Ow.getfield (pc' := 4) B e45_1 (w51 hw) Via.refl X1 ?_
 refine Ow.ifnonnullF (pc' := 7) B e45_4 ?_
 refine Ow.aloadN (pc' := 8) B e45_7 ?_
 refine Ow.newObj (pc' := 11) (k' := 1) (n' := 4) B e45_8 (w89 hw) (w90 hw) (w91 hw) ?_
 intro h2 a1 ga1 ba1 Kh2 Aa1 Da1
 have zh2 := Kh2.1
 have la1 : (a1 : Nat) < h2.size := Aa1.lt
 have f3 : Fld Z h2 a1 "java/lang/AbstractStringBuilder" "value" "[B" .null := Da1 (Or.inl (w104 hw)) (ty := (.array .byte)) (by decide)
 have f4 : Fld Z h2 a1 "java/lang/AbstractStringBuilder" "coder" "B" (.int 0) := Da1 (Or.inl (w106 hw)) (ty := .byte) (by decide)
 have f5 : Fld Z h2 a1 "java/lang/AbstractStringBuilder" "count" "I" (.int 0) := Da1 (Or.inl (w124 hw)) (ty := .int) (by decide)
 have f6 : Fld Z h2 a1 "java/lang/AbstractStringBuilder" "maybeLatin1" "Z" (.int 0) := Da1 (Or.inl (w302 hw)) (ty := .boolean) (by decide)
 refine Ow.dup (pc' := 12) B e45_11 ?_
 refine Ow.Go.old (fun o7 => ?_)
 refine Ow.callInit (pc' := 15) (W := 2) (k' := 2) (n' := 20) (argsL := []) (rest := [(.ref a1), (.ref tw)]) B e45_12 (w92 hw) (w93 hw) (w91 hw) (w94 hw) (con_init_23 hw G GS GI (pa0 := a1) o7 Aa1 f4 f5 f6 f3 (by omega)) pd22 ?_
 intro vq8 h9 S10 q8 zh9
 obtain ⟨r11, k12, rfl, Kh9, br11, f13, f14, f15, f16, f17, f18, rfl⟩ := q8
 have lr11 : (r11 : Nat) < h9.size := f18.lt
 refine Ow.Go.norm (S' := [r11, a1]) (st' := [(.ref a1), (.ref tw)]) (fun _ q => q) rfl ?_
 have f19 : Sbd Z h9 a1 r11 k12 [] := ⟨f13, f17, f16, f15, Ow.allI0, Or.inl ⟨f14, f18.pad (fun i => (pad_rep [] (.int 0) 16 i).symm), Ow.allI0⟩⟩
 have f20 := X1.keep Kh2 Ow.nin0
 have f21 := f20.keep Kh9 (Ow.ninS (by omega) Ow.nin0)
 have f22 := E.keep Kh2
 have f23 := f22.keep Kh9
 refine Ow.putfield (pc' := 18) (ty := (.object "java/lang/StringBuilder")) B e45_15 (w51 hw) Via.refl f21 f23 (Or.inl (w52 hw)) (w30 hw) (Or.inr ⟨by decide, by decide⟩) ?_
 intro h24 Wh24
 have f25 := X2.keep Kh2 Ow.nin0
 have f26 := f25.keep Kh9 (Ow.ninS (by omega) Ow.nin0)
 have Kh24 := Keep.of_wr Wh24
 have zh24 := Kh24.1
 have f27 : Fld Z h24 tw "com/example/ply3/ply3/TextWriter" "text" "Ljava/lang/StringBuilder;" (.ref a1) := f21.same Wh24
 have f28 : Fld Z h24 tw "com/example/ply3/ply3/TextWriter" "whole" "Ljava/lang/String;" .null := f26.other Wh24 (Or.inr (slot_ne (a0 := a0) (C := "com/example/ply3/ply3/TextWriter") (t := (.object "java/lang/String")) (t' := (.object "java/lang/StringBuilder")) (Or.inl (w54 hw)) (Or.inl (w52 hw)) (by decide) (by decide) (by decide)))
 refine Ow.aloadN (pc' := 19) B e45_18 ?_
 refine Ow.getfield (pc' := 22) B e45_19 (w53 hw) Via.refl f28 ?_
 refine Ow.ifnullT (pc' := 37) B e45_22 ?_
 refine Ow.aloadN (pc' := 38) B e45_37 (Ow.aconstNull (pc' := 39) B e45_38 ?_)
 have f29 := f23.keep Kh24
 refine Ow.putfield (pc' := 42) (ty := (.object "java/lang/String")) B e45_39 (w53 hw) Via.refl f28 f29 (Or.inl (w54 hw)) (w30 hw) (Or.inr ⟨by decide, by decide⟩) ?_
 intro h30 Wh30
 have Kh30 := Keep.of_wr Wh30
 have zh30 := Kh30.1
 have f31 : Fld Z h30 tw "com/example/ply3/ply3/TextWriter" "whole" "Ljava/lang/String;" .null := f28.same Wh30
 have f32 : Fld Z h30 tw "com/example/ply3/ply3/TextWriter" "text" "Ljava/lang/StringBuilder;" (.ref a1) := f27.other Wh30 (Or.inr (slot_ne (a0 := a0) (C := "com/example/ply3/ply3/TextWriter") (t := (.object "java/lang/StringBuilder")) (t' := (.object "java/lang/String")) (Or.inl (w52 hw)) (Or.inl (w54 hw)) (by decide) (by decide) (by decide)))
 refine Ow.aloadN (pc' := 43) B e45_42 ?_
 refine Ow.getfield (pc' := 46) B e45_43 (w51 hw) Via.refl f32 ?_
 have f33 := f19.keep Kh24 (Ow.ninS (by omega) Ow.nin0) (Ow.ninS (by omega) Ow.nin0)
 have f34 := f33.keep Kh30 (Ow.ninS (by omega) Ow.nin0) (Ow.ninS (by omega) Ow.nin0)
 exact Ow.retA (S' := [r11]) (t := (.object "java/lang/StringBuilder")) B e45_46 (⟨a1, r11, k12, rfl, (((((Keep.refl _ [tw]).trans Kh2 (fun _ q => nomatch q)).trans Kh9 (allS (Or.inr (by omega)) all0)).trans Kh24 (allS (Or.inl (by simp)) all0)).trans Kh30 (allS (Or.inl (by simp)) all0)), (by omega), (by omega), (by omega), f32, f31, f34, rfl⟩)
theorem gBldB (hw : Hw a0 Z) (G : Ow.Glo Z cz sf) (GS : GlS Z) {iof : Value} (GI : Sta Z Z.heap "jdk/internal/util/Preconditions" "IOOBE_FORMATTER" "Ljava/util/function/BiFunction;" iof ∧ iof.isRef = true) {h0 : Heap} (O0 : Old Z n0 h0) {tw : Nat} (E : Exa Z h0 tw "com/example/ply3/ply3/TextWriter") (hw0 : n0 ≤ tw) {wn wt : Nat} {wk : ClassId} {cs : List Int32} (X1 : Fld Z h0 tw "com/example/ply3/ply3/TextWriter" "text" "Ljava/lang/StringBuilder;" .null) (X2 : Fld Z h0 tw "com/example/ply3/ply3/TextWriter" "whole" "Ljava/lang/String;" (.ref wn)) (FW : Ow.Chs Z h0 wn wt wk cs) (hwn : wn < tw) (hwt : wt < tw) (hc : cs.length + 2 ≤ 16) :
    Ow.Con l Z EL1 n0 my47 prog_33_method_9_code 1 (Option.some (Jvm.ClassFile.FieldType.object "java/lang/StringBuilder")) [] ({ frames := 10, cells := 3, slots := 52, locals := 143 } : Room) #[(.ref tw)] [] h0 (fun v h S' => ∃ b' : Nat, ∃ t' : Nat, ∃ kr : ClassId, v = some (.ref b') ∧ Keep h0 h [tw] ∧ h0.size ≤ b' ∧ h0.size ≤ t' ∧ b' ≠ t' ∧ Fld Z h tw "com/example/ply3/ply3/TextWriter" "text" "Ljava/lang/StringBuilder;" (.ref b') ∧ Fld Z h tw "com/example/ply3/ply3/TextWriter" "whole" "Ljava/lang/String;" .null ∧ Sbd Z h b' t' kr (cs) ∧ S' = [t']) := by
 refine Ow.Con.enter (Ls := #[vR tw]) (plainFor_of_name pn6) O0 (hEW hw) (hSA hw) ?_
 intro p e s m below meth c B
 have z0 := Ow.old_le O0
 have ltw : (tw : Nat) < h0.size := E.lt
 have lwn : (wn : Nat) < h0.size := FW.lt
 have lwt : (wt : Nat) < h0.size := FW.ltt
 refine Ow.aloadN (pc' := 1) B e45_0 ?_
 refine Ow.getfield (pc' := 4) B e45_1 (w51 hw) Via.refl X1 ?_
 refine Ow.ifnonnullF (pc' := 7) B e45_4 ?_
 refine Ow.aloadN (pc' := 8) B e45_7 ?_
 refine Ow.newObj (pc' := 11) (k' := 1) (n' := 4) B e45_8 (w89 hw) (w90 hw) (w91 hw) ?_
 intro h2 a1 ga1 ba1 Kh2 Aa1 Da1
 have zh2 := Kh2.1
 have la1 : (a1 : Nat) < h2.size := Aa1.lt
 have f3 : Fld Z h2 a1 "java/lang/AbstractStringBuilder" "value" "[B" .null := Da1 (Or.inl (w104 hw)) (ty := (.array .byte)) (by decide)
 have f4 : Fld Z h2 a1 "java/lang/AbstractStringBuilder" "coder" "B" (.int 0) := Da1 (Or.inl (w106 hw)) (ty := .byte) (by decide)
 have f5 : Fld Z h2 a1 "java/lang/AbstractStringBuilder" "count" "I" (.int 0) := Da1 (Or.inl (w124 hw)) (ty := .int) (by decide)
 have f6 : Fld Z h2 a1 "java/lang/AbstractStringBuilder" "maybeLatin1" "Z" (.int 0) := Da1 (Or.inl (w302 hw)) (ty := .boolean) (by decide)
 refine Ow.dup (pc' := 12) B e45_11 ?_
 refine Ow.Go.old (fun o7 => ?_)
 refine Ow.callInit (pc' := 15) (W := 2) (k' := 2) (n' := 20) (argsL := []) (rest := [(.ref a1), (.ref tw)]) B e45_12 (w92 hw) (w93 hw) (w91 hw) (w94 hw) (con_init_23 hw G GS GI (pa0 := a1) o7 Aa1 f4 f5 f6 f3 (by omega)) pd22 ?_
 intro vq8 h9 S10 q8 zh9
 obtain ⟨r11, k12, rfl, Kh9, br11, f13, f14, f15, f16, f17, f18, rfl⟩ := q8
 have lr11 : (r11 : Nat) < h9.size := f18.lt
 refine Ow.Go.norm (S' := [r11, a1]) (st' := [(.ref a1), (.ref tw)]) (fun _ q => q) rfl ?_
 have f19 : Sbd Z h9 a1 r11 k12 [] := ⟨f13, f17, f16, f15, Ow.allI0, Or.inl ⟨f14, f18.pad (fun i => (pad_rep [] (.int 0) 16 i).symm), Ow.allI0⟩⟩
 have f20 := X1.keep Kh2 Ow.nin0
 have f21 := f20.keep Kh9 (Ow.ninS (by omega) Ow.nin0)
 have f22 := E.keep Kh2
 have f23 := f22.keep Kh9
 refine Ow.putfield (pc' := 18) (ty := (.object "java/lang/StringBuilder")) B e45_15 (w51 hw) Via.refl f21 f23 (Or.inl (w52 hw)) (w30 hw) (Or.inr ⟨by decide, by decide⟩) ?_
 intro h24 Wh24
 have f25 := X2.keep Kh2 Ow.nin0
 have f26 := f25.keep Kh9 (Ow.ninS (by omega) Ow.nin0)
 have Kh24 := Keep.of_wr Wh24
 have zh24 := Kh24.1
 have f27 : Fld Z h24 tw "com/example/ply3/ply3/TextWriter" "text" "Ljava/lang/StringBuilder;" (.ref a1) := f21.same Wh24
 have f28 : Fld Z h24 tw "com/example/ply3/ply3/TextWriter" "whole" "Ljava/lang/String;" (.ref wn) := f26.other Wh24 (Or.inr (slot_ne (a0 := a0) (C := "com/example/ply3/ply3/TextWriter") (t := (.object "java/lang/String")) (t' := (.object "java/lang/StringBuilder")) (Or.inl (w54 hw)) (Or.inl (w52 hw)) (by decide) (by decide) (by decide)))
 refine Ow.aloadN (pc' := 19) B e45_18 ?_
 refine Ow.getfield (pc' := 22) B e45_19 (w53 hw) Via.refl f28 ?_
 refine Ow.ifnullF (pc' := 25) B e45_22 ?_
 refine Ow.aloadN (pc' := 26) B e45_25 ?_
 refine Ow.getfield (pc' := 29) B e45_26 (w51 hw) Via.refl f27 ?_
 refine Ow.aloadN (pc' := 30) B e45_29 ?_
 refine Ow.getfield (pc' := 33) B e45_30 (w53 hw) Via.refl f28 ?_
 have f29 := f19.keep Kh24 (Ow.ninS (by omega) Ow.nin0) (Ow.ninS (by omega) Ow.nin0)
 have f30 := FW.keep Kh2 Ow.nin0 Ow.nin0
 have f31 := f30.keep Kh9 (Ow.ninS (by omega) Ow.nin0) (Ow.ninS (by omega) Ow.nin0)
 have f32 := f31.keep Kh24 (Ow.ninS (by omega) Ow.nin0) (Ow.ninS (by omega) Ow.nin0)
 refine Ow.Go.old (fun o33 => ?_)
 refine Ow.callVirtual (pc' := 36) (W := 0) (k' := 3) (n' := 52) (argsL := [(.ref wn)]) (rest := []) (K := "java/lang/StringBuilder") B e45_33 (w237 hw) (w238 hw) (w240 hw) (w240 hw) (w239 hw) (w91 hw) (w241 hw) (f29).1 (gAppS hw G GS GI o33 f29 (by omega) (by omega) (by omega) f32 (by omega) (by omega) (by omega) (by omega) (by simp; omega)) pd31 ?_
 intro vq34 h35 S36 q34 zh35
 obtain ⟨t37, k38, rfl, Kh35, e40, f39, rfl⟩ := q34
 have lt37 : (t37 : Nat) < h35.size := f39.ltt
 refine Ow.Go.norm (S' := [t37, r11, a1]) (st' := [(.ref a1)]) (fun _ q => q) rfl ?_
 refine Ow.pop (pc' := 37) B e45_36 ?_
 refine Ow.aloadN (pc' := 38) B e45_37 (Ow.aconstNull (pc' := 39) B e45_38 ?_)
 have f41 := f28.keep Kh35 (Ow.ninS (by omega) (Ow.ninS (by omega) Ow.nin0))
 have f42 := f23.keep Kh24
 have f43 := f42.keep Kh35
 refine Ow.putfield (pc' := 42) (ty := (.object "java/lang/String")) B e45_39 (w53 hw) Via.refl f41 f43 (Or.inl (w54 hw)) (w30 hw) (Or.inr ⟨by decide, by decide⟩) ?_
 intro h44 Wh44
 have f45 := f27.keep Kh35 (Ow.ninS (by omega) (Ow.ninS (by omega) Ow.nin0))
 have Kh44 := Keep.of_wr Wh44
 have zh44 := Kh44.1
 have f46 : Fld Z h44 tw "com/example/ply3/ply3/TextWriter" "whole" "Ljava/lang/String;" .null := f41.same Wh44
 have f47 : Fld Z h44 tw "com/example/ply3/ply3/TextWriter" "text" "Ljava/lang/StringBuilder;" (.ref a1) := f45.other Wh44 (Or.inr (slot_ne (a0 := a0) (C := "com/example/ply3/ply3/TextWriter") (t := (.object "java/lang/StringBuilder")) (t' := (.object "java/lang/String")) (Or.inl (w52 hw)) (Or.inl (w54 hw)) (by decide) (by decide) (by decide)))
 refine Ow.aloadN (pc' := 43) B e45_42 ?_
 refine Ow.getfield (pc' := 46) B e45_43 (w51 hw) Via.refl f47 ?_
 have f48 := f39.keep Kh44 (Ow.ninS (by omega) Ow.nin0) (Ow.ninS (by omega) Ow.nin0)
 exact Ow.retA (S' := [t37]) (t := (.object "java/lang/StringBuilder")) B e45_46 (⟨a1, t37, k38, rfl, ((((((Keep.refl _ [tw]).trans Kh2 (fun _ q => nomatch q)).trans Kh9 (allS (Or.inr (by omega)) all0)).trans Kh24 (allS (Or.inl (by simp)) all0)).trans Kh35 (allS (Or.inr (by omega)) (allS (Or.inr (by omega)) all0))).trans Kh44 (allS (Or.inl (by simp)) all0)), (by omega), (by omega), (by omega), f47, f46, f48, rfl⟩)
theorem gBldC (hw : Hw a0 Z) (G : Ow.Glo Z cz sf) (GS : GlS Z) {iof : Value} (GI : Sta Z Z.heap "jdk/internal/util/Preconditions" "IOOBE_FORMATTER" "Ljava/util/function/BiFunction;" iof ∧ iof.isRef = true) {h0 : Heap} (O0 : Old Z n0 h0) {tw : Nat} (E : Exa Z h0 tw "com/example/ply3/ply3/TextWriter") (hw0 : n0 ≤ tw) {b vb : Nat} {kv : ClassId} {cs : List Int32} (X1 : Fld Z h0 tw "com/example/ply3/ply3/TextWriter" "text" "Ljava/lang/StringBuilder;" (.ref b)) (X2 : Fld Z h0 tw "com/example/ply3/ply3/TextWriter" "whole" "Ljava/lang/String;" .null) (F : Sbd Z h0 b vb kv cs) (hwb : tw < b) (hwv : tw < vb) (hne : b ≠ vb) (hc : cs.length + 2 ≤ 16) :
    Ow.Con l Z EL1 n0 my47 prog_33_method_9_code 1 (Option.some (Jvm.ClassFile.FieldType.object "java/lang/StringBuilder")) [] ({ frames := 0, cells := 0, slots := 0, locals := 0 } : Room) #[(.ref tw)] [] h0 (fun v h S' => v = some (.ref b) ∧ h = h0 ∧ S' = []) := by
 refine Ow.Con.enter (Ls := #[vR tw]) (plainFor_of_name pn6) O0 (hEW hw) (hSA hw) ?_
 intro p e s m below meth c B
 have z0 := Ow.old_le O0
 have ltw : (tw : Nat) < h0.size := E.lt
 have lb : (b : Nat) < h0.size := F.lt
 have lvb : (vb : Nat) < h0.size := F.ltt
 refine Ow.aloadN (pc' := 1) B e45_0 ?_
 refine Ow.getfield (pc' := 4) B e45_1 (w51 hw) Via.refl X1 ?_
 refine Ow.ifnonnullT (pc' := 42) B e45_4 ?_
 refine Ow.aloadN (pc' := 43) B e45_42 ?_
 refine Ow.getfield (pc' := 46) B e45_43 (w51 hw) Via.refl X1 ?_
 exact Ow.retA (S' := []) (t := (.object "java/lang/StringBuilder")) B e45_46 (⟨rfl, rfl, rfl⟩)
theorem gWiA (hw : Hw a0 Z) (G : Ow.Glo Z cz sf) (GS : GlS Z) {iof : Value} (GI : Sta Z Z.heap "jdk/internal/util/Preconditions" "IOOBE_FORMATTER" "Ljava/util/function/BiFunction;" iof ∧ iof.isRef = true) {h0 : Heap} (O0 : Old Z n0 h0) {tw : Nat} (E : Exa Z h0 tw "com/example/ply3/ply3/TextWriter") (hw0 : n0 ≤ tw) (X1 : Fld Z h0 tw "com/example/ply3/ply3/TextWriter" "text" "Ljava/lang/StringBuilder;" .null) (X2 : Fld Z h0 tw "com/example/ply3/ply3/TextWriter" "whole" "Ljava/lang/String;" .null) {pp : Int32} :
    Ow.Con l Z EL1 n0 my48 prog_33_method_2_code 2 (Option.none : Option Jvm.ClassFile.FieldType) [] ({ frames := 8, cells := 3, slots := 52, locals := 115 } : Room) #[(.ref tw), (.int pp)] [] h0 (fun v h S' => ∃ b' : Nat, ∃ t' : Nat, ∃ kr : ClassId, v = none ∧ Keep h0 h [tw] ∧ h0.size ≤ b' ∧ h0.size ≤ t' ∧ b' ≠ t' ∧ Fld Z h tw "com/example/ply3/ply3/TextWriter" "text" "Ljava/lang/StringBuilder;" (.ref b') ∧ Fld Z h tw "com/example/ply3/ply3/TextWriter" "whole" "Ljava/lang/String;" .null ∧ Sbd Z h b' t' kr ([] ++ [lo pp]) ∧ S' = [t']) := by
 refine Ow.Con.enter (Ls := #[vR tw, vI pp]) (plainFor_of_name pn6) O0 (hEW hw) (hSA hw) ?_
 intro p e s m below meth c B
 have z0 := Ow.old_le O0
 have ltw : (tw : Nat) < h0.size := E.lt
 refine Ow.aloadN (pc' := 1) B e48_0 ?_
 refine Ow.Go.old (fun o1 => ?_)
 refine Ow.callPrivate (pc' := 4) (W := 0) (k' := 2) (n' := 20) (argsL := []) (rest := []) (K := "com/example/ply3/ply3/TextWriter") B e48_1 (w85 hw) (w86 hw) (w87 hw) (w30 hw) (w31 hw) (w88 hw) E (gBldA hw G GS GI o1 E (by omega) X1 X2) pd32 ?_
 intro vq2 h3 S4 q2 zh3
 obtain ⟨b5, t6, k7, rfl, Kh3, f8, f9, f10, f11, f12, f13, rfl⟩ := q2
 have lb5 : (b5 : Nat) < h3.size := f13.lt
 have lt6 : (t6 : Nat) < h3.size := f13.ltt
 refine Ow.Go.norm (S' := [t6]) (st' := [(.ref b5)]) (fun _ q => q) rfl ?_
 refine Ow.iloadN (pc' := 5) B e48_4 ?_
 refine Ow.i2c (pc' := 6) (z := (lo pp)) B e48_5 ?_
 refine Ow.Go.old (fun o14 => ?_)
 refine Ow.callVirtual (pc' := 9) (W := 0) (k' := 3) (n' := 52) (argsL := [(.int (lo pp))]) (rest := []) (K := "java/lang/StringBuilder") B e48_6 (w315 hw) (w316 hw) (w318 hw) (w318 hw) (w317 hw) (w91 hw) (w319 hw) (f13).1 (gAppC hw G GS GI (x := (lo pp)) o14 f13 (by omega) (by omega) (by omega) (lo0 pp) (lo16 pp) (by first|omega|(simp;omega)|simp)) pd33 ?_
 intro vq15 h16 S17 q15 zh16
 obtain ⟨t18, k19, rfl, Kh16, e21, f20, rfl⟩ := q15
 have lt18 : (t18 : Nat) < h16.size := f20.ltt
 refine Ow.Go.norm (S' := [t18, t6]) (st' := [(.ref b5)]) (fun _ q => q) rfl ?_
 refine Ow.pop (pc' := 10) B e48_9 ?_
 have f22 := f11.keep Kh16 (Ow.ninS (by omega) (Ow.ninS (by omega) Ow.nin0))
 have f23 := f12.keep Kh16 (Ow.ninS (by omega) (Ow.ninS (by omega) Ow.nin0))
 exact Ow.retV (S' := [t18]) B e48_10 (⟨b5, t18, k19, rfl, (((Keep.refl _ [tw]).trans Kh3 (allS (Or.inl (by simp)) all0)).trans Kh16 (allS (Or.inr (by omega)) (allS (Or.inr (by omega)) all0))), (by omega), (by omega), (by omega), f22, f23, f20, rfl⟩)
theorem gWaA00 (hw : Hw a0 Z) (G : Ow.Glo Z cz sf) (GS : GlS Z) {iof : Value} (GI : Sta Z Z.heap "jdk/internal/util/Preconditions" "IOOBE_FORMATTER" "Ljava/util/function/BiFunction;" iof ∧ iof.isRef = true) {h0 : Heap} (O0 : Old Z n0 h0) {tw : Nat} (E : Exa Z h0 tw "com/example/ply3/ply3/TextWriter") (hw0 : n0 ≤ tw) (X1 : Fld Z h0 tw "com/example/ply3/ply3/TextWriter" "text" "Ljava/lang/StringBuilder;" .null) (X2 : Fld Z h0 tw "com/example/ply3/ply3/TextWriter" "whole" "Ljava/lang/String;" .null) {ca : Nat} {kc : ClassId} {pp : Int32} (CAr : Arv Z h0 ca kc .char 2 [(.int (lo pp)), (.int (hi pp))] (.int 0)) (hca : ca < tw) :
    Ow.Con l Z EL1 n0 my49 prog_33_method_3_code 4 (Option.none : Option Jvm.ClassFile.FieldType) [] ({ frames := 7, cells := 2, slots := 20, locals := 110 } : Room) #[(.ref tw), (.ref ca), (.int 0), (.int 0)] [] h0 (fun v h S' => ∃ b' : Nat, ∃ t' : Nat, ∃ kr : ClassId, v = none ∧ Keep h0 h [tw] ∧ h0.size ≤ b' ∧ h0.size ≤ t' ∧ b' ≠ t' ∧ Fld Z h tw "com/example/ply3/ply3/TextWriter" "text" "Ljava/lang/StringBuilder;" (.ref b') ∧ Fld Z h tw "com/example/ply3/ply3/TextWriter" "whole" "Ljava/lang/String;" .null ∧ Sbd Z h b' t' kr ([]) ∧ S' = [t']) := by
 refine Ow.Con.enter (Ls := #[vR tw, vR ca, vI 0, vI 0]) (plainFor_of_name pn6) O0 (hEW hw) (hSA hw) ?_
 intro p e s m below meth c B
 have z0 := Ow.old_le O0
 have ltw : (tw : Nat) < h0.size := E.lt
 have lca : (ca : Nat) < h0.size := CAr.lt
 refine Ow.aloadN (pc' := 1) B e49_0 ?_
 refine Ow.Go.old (fun o1 => ?_)
 refine Ow.callPrivate (pc' := 4) (W := 0) (k' := 2) (n' := 20) (argsL := []) (rest := []) (K := "com/example/ply3/ply3/TextWriter") B e49_1 (w85 hw) (w86 hw) (w87 hw) (w30 hw) (w31 hw) (w88 hw) E (gBldA hw G GS GI o1 E (by omega) X1 X2) pd32 ?_
 intro vq2 h3 S4 q2 zh3
 obtain ⟨b5, t6, k7, rfl, Kh3, f8, f9, f10, f11, f12, f13, rfl⟩ := q2
 have lb5 : (b5 : Nat) < h3.size := f13.lt
 have lt6 : (t6 : Nat) < h3.size := f13.ltt
 refine Ow.Go.norm (S' := [t6]) (st' := [(.ref b5)]) (fun _ q => q) rfl ?_
 refine Ow.aloadN (pc' := 5) B e49_4 (Ow.iloadN (pc' := 6) B e49_5 (Ow.iloadN (pc' := 7) B e49_6 ?_))
 have f14 := CAr.keep Kh3 (Ow.ninS (by omega) Ow.nin0)
 refine Ow.Go.old (fun o15 => ?_)
 refine Ow.callVirtual (pc' := 10) (W := 0) (k' := 2) (n' := 20) (argsL := [(.ref ca), (.int 0), (.int 0)]) (rest := []) (K := "java/lang/StringBuilder") B e49_7 (w107 hw) (w108 hw) (w110 hw) (w110 hw) (w109 hw) (w91 hw) (w111 hw) (f13).1 (gAppA00 hw G GS GI o15 f13 (by omega) (by omega) (by omega) f14 ⟨lo0 pp, lo16 pp⟩ ⟨hi0 pp, hi16 pp⟩ (by omega) (by omega) (by first|omega|(simp;omega)|simp)) pd34 ?_
 intro vq16 h17 S18 q16 zh17
 obtain ⟨t19, k20, rfl, Kh17, e22, f21, rfl⟩ := q16
 have lt19 : (t19 : Nat) < h17.size := f21.ltt
 refine Ow.Go.norm (S' := [t19, t6]) (st' := [(.ref b5)]) (fun _ q => q) rfl ?_
 refine Ow.pop (pc' := 11) B e49_10 ?_
 have f23 := f11.keep Kh17 (Ow.ninS (by omega) (Ow.ninS (by omega) Ow.nin0))
 have f24 := f12.keep Kh17 (Ow.ninS (by omega) (Ow.ninS (by omega) Ow.nin0))
 exact Ow.retV (S' := [t19]) B e49_11 (⟨b5, t19, k20, rfl, (((Keep.refl _ [tw]).trans Kh3 (allS (Or.inl (by simp)) all0)).trans Kh17 (allS (Or.inr (by omega)) (allS (Or.inr (by omega)) all0))), (by omega), (by omega), (by omega), f23, f24, f21, rfl⟩)
theorem gWaA12 (hw : Hw a0 Z) (G : Ow.Glo Z cz sf) (GS : GlS Z) {iof : Value} (GI : Sta Z Z.heap "jdk/internal/util/Preconditions" "IOOBE_FORMATTER" "Ljava/util/function/BiFunction;" iof ∧ iof.isRef = true) {h0 : Heap} (O0 : Old Z n0 h0) {tw : Nat} (E : Exa Z h0 tw "com/example/ply3/ply3/TextWriter") (hw0 : n0 ≤ tw) (X1 : Fld Z h0 tw "com/example/ply3/ply3/TextWriter" "text" "Ljava/lang/StringBuilder;" .null) (X2 : Fld Z h0 tw "com/example/ply3/ply3/TextWriter" "whole" "Ljava/lang/String;" .null) {ca : Nat} {kc : ClassId} {pp : Int32} (CAr : Arv Z h0 ca kc .char 2 [(.int (lo pp)), (.int (hi pp))] (.int 0)) (hca : ca < tw) :
    Ow.Con l Z EL1 n0 my49 prog_33_method_3_code 4 (Option.none : Option Jvm.ClassFile.FieldType) [] ({ frames := 9, cells := 3, slots := 52, locals := 140 } : Room) #[(.ref tw), (.ref ca), (.int 1), (.int 1)] [] h0 (fun v h S' => ∃ b' : Nat, ∃ t' : Nat, ∃ kr : ClassId, v = none ∧ Keep h0 h [tw] ∧ h0.size ≤ b' ∧ h0.size ≤ t' ∧ b' ≠ t' ∧ Fld Z h tw "com/example/ply3/ply3/TextWriter" "text" "Ljava/lang/StringBuilder;" (.ref b') ∧ Fld Z h tw "com/example/ply3/ply3/TextWriter" "whole" "Ljava/lang/String;" .null ∧ Sbd Z h b' t' kr ([] ++ [hi pp]) ∧ S' = [t']) := by
 refine Ow.Con.enter (Ls := #[vR tw, vR ca, vI 1, vI 1]) (plainFor_of_name pn6) O0 (hEW hw) (hSA hw) ?_
 intro p e s m below meth c B
 have z0 := Ow.old_le O0
 have ltw : (tw : Nat) < h0.size := E.lt
 have lca : (ca : Nat) < h0.size := CAr.lt
 refine Ow.aloadN (pc' := 1) B e49_0 ?_
 refine Ow.Go.old (fun o1 => ?_)
 refine Ow.callPrivate (pc' := 4) (W := 0) (k' := 2) (n' := 20) (argsL := []) (rest := []) (K := "com/example/ply3/ply3/TextWriter") B e49_1 (w85 hw) (w86 hw) (w87 hw) (w30 hw) (w31 hw) (w88 hw) E (gBldA hw G GS GI o1 E (by omega) X1 X2) pd32 ?_
 intro vq2 h3 S4 q2 zh3
 obtain ⟨b5, t6, k7, rfl, Kh3, f8, f9, f10, f11, f12, f13, rfl⟩ := q2
 have lb5 : (b5 : Nat) < h3.size := f13.lt
 have lt6 : (t6 : Nat) < h3.size := f13.ltt
 refine Ow.Go.norm (S' := [t6]) (st' := [(.ref b5)]) (fun _ q => q) rfl ?_
 refine Ow.aloadN (pc' := 5) B e49_4 (Ow.iloadN (pc' := 6) B e49_5 (Ow.iloadN (pc' := 7) B e49_6 ?_))
 have f14 := CAr.keep Kh3 (Ow.ninS (by omega) Ow.nin0)
 refine Ow.Go.old (fun o15 => ?_)
 refine Ow.callVirtual (pc' := 10) (W := 0) (k' := 3) (n' := 52) (argsL := [(.ref ca), (.int 1), (.int 1)]) (rest := []) (K := "java/lang/StringBuilder") B e49_7 (w107 hw) (w108 hw) (w110 hw) (w110 hw) (w109 hw) (w91 hw) (w111 hw) (f13).1 (gAppA12 hw G GS GI o15 f13 (by omega) (by omega) (by omega) f14 ⟨lo0 pp, lo16 pp⟩ ⟨hi0 pp, hi16 pp⟩ (by omega) (by omega) (by first|omega|(simp;omega)|simp)) pd34 ?_
 intro vq16 h17 S18 q16 zh17
 obtain ⟨t19, k20, rfl, Kh17, e22, f21, rfl⟩ := q16
 have lt19 : (t19 : Nat) < h17.size := f21.ltt
 refine Ow.Go.norm (S' := [t19, t6]) (st' := [(.ref b5)]) (fun _ q => q) rfl ?_
 refine Ow.pop (pc' := 11) B e49_10 ?_
 have f23 := f11.keep Kh17 (Ow.ninS (by omega) (Ow.ninS (by omega) Ow.nin0))
 have f24 := f12.keep Kh17 (Ow.ninS (by omega) (Ow.ninS (by omega) Ow.nin0))
 exact Ow.retV (S' := [t19]) B e49_11 (⟨b5, t19, k20, rfl, (((Keep.refl _ [tw]).trans Kh3 (allS (Or.inl (by simp)) all0)).trans Kh17 (allS (Or.inr (by omega)) (allS (Or.inr (by omega)) all0))), (by omega), (by omega), (by omega), f23, f24, f21, rfl⟩)
theorem gWaA02 (hw : Hw a0 Z) (G : Ow.Glo Z cz sf) (GS : GlS Z) {iof : Value} (GI : Sta Z Z.heap "jdk/internal/util/Preconditions" "IOOBE_FORMATTER" "Ljava/util/function/BiFunction;" iof ∧ iof.isRef = true) {h0 : Heap} (O0 : Old Z n0 h0) {tw : Nat} (E : Exa Z h0 tw "com/example/ply3/ply3/TextWriter") (hw0 : n0 ≤ tw) (X1 : Fld Z h0 tw "com/example/ply3/ply3/TextWriter" "text" "Ljava/lang/StringBuilder;" .null) (X2 : Fld Z h0 tw "com/example/ply3/ply3/TextWriter" "whole" "Ljava/lang/String;" .null) {ca : Nat} {kc : ClassId} {pp : Int32} (CAr : Arv Z h0 ca kc .char 2 [(.int (lo pp)), (.int (hi pp))] (.int 0)) (hca : ca < tw) :
    Ow.Con l Z EL1 n0 my49 prog_33_method_3_code 4 (Option.none : Option Jvm.ClassFile.FieldType) [] ({ frames := 9, cells := 3, slots := 52, locals := 140 } : Room) #[(.ref tw), (.ref ca), (.int 0), (.int 2)] [] h0 (fun v h S' => ∃ b' : Nat, ∃ t' : Nat, ∃ kr : ClassId, v = none ∧ Keep h0 h [tw] ∧ h0.size ≤ b' ∧ h0.size ≤ t' ∧ b' ≠ t' ∧ Fld Z h tw "com/example/ply3/ply3/TextWriter" "text" "Ljava/lang/StringBuilder;" (.ref b') ∧ Fld Z h tw "com/example/ply3/ply3/TextWriter" "whole" "Ljava/lang/String;" .null ∧ Sbd Z h b' t' kr ([] ++ [lo pp, hi pp]) ∧ S' = [t']) := by
 refine Ow.Con.enter (Ls := #[vR tw, vR ca, vI 0, vI 2]) (plainFor_of_name pn6) O0 (hEW hw) (hSA hw) ?_
 intro p e s m below meth c B
 have z0 := Ow.old_le O0
 have ltw : (tw : Nat) < h0.size := E.lt
 have lca : (ca : Nat) < h0.size := CAr.lt
 refine Ow.aloadN (pc' := 1) B e49_0 ?_
 refine Ow.Go.old (fun o1 => ?_)
 refine Ow.callPrivate (pc' := 4) (W := 0) (k' := 2) (n' := 20) (argsL := []) (rest := []) (K := "com/example/ply3/ply3/TextWriter") B e49_1 (w85 hw) (w86 hw) (w87 hw) (w30 hw) (w31 hw) (w88 hw) E (gBldA hw G GS GI o1 E (by omega) X1 X2) pd32 ?_
 intro vq2 h3 S4 q2 zh3
 obtain ⟨b5, t6, k7, rfl, Kh3, f8, f9, f10, f11, f12, f13, rfl⟩ := q2
 have lb5 : (b5 : Nat) < h3.size := f13.lt
 have lt6 : (t6 : Nat) < h3.size := f13.ltt
 refine Ow.Go.norm (S' := [t6]) (st' := [(.ref b5)]) (fun _ q => q) rfl ?_
 refine Ow.aloadN (pc' := 5) B e49_4 (Ow.iloadN (pc' := 6) B e49_5 (Ow.iloadN (pc' := 7) B e49_6 ?_))
 have f14 := CAr.keep Kh3 (Ow.ninS (by omega) Ow.nin0)
 refine Ow.Go.old (fun o15 => ?_)
 refine Ow.callVirtual (pc' := 10) (W := 0) (k' := 3) (n' := 52) (argsL := [(.ref ca), (.int 0), (.int 2)]) (rest := []) (K := "java/lang/StringBuilder") B e49_7 (w107 hw) (w108 hw) (w110 hw) (w110 hw) (w109 hw) (w91 hw) (w111 hw) (f13).1 (gAppA02 hw G GS GI o15 f13 (by omega) (by omega) (by omega) f14 ⟨lo0 pp, lo16 pp⟩ ⟨hi0 pp, hi16 pp⟩ (by omega) (by omega) (by first|omega|(simp;omega)|simp)) pd34 ?_
 intro vq16 h17 S18 q16 zh17
 obtain ⟨t19, k20, rfl, Kh17, e22, f21, rfl⟩ := q16
 have lt19 : (t19 : Nat) < h17.size := f21.ltt
 refine Ow.Go.norm (S' := [t19, t6]) (st' := [(.ref b5)]) (fun _ q => q) rfl ?_
 refine Ow.pop (pc' := 11) B e49_10 ?_
 have f23 := f11.keep Kh17 (Ow.ninS (by omega) (Ow.ninS (by omega) Ow.nin0))
 have f24 := f12.keep Kh17 (Ow.ninS (by omega) (Ow.ninS (by omega) Ow.nin0))
 exact Ow.retV (S' := [t19]) B e49_11 (⟨b5, t19, k20, rfl, (((Keep.refl _ [tw]).trans Kh3 (allS (Or.inl (by simp)) all0)).trans Kh17 (allS (Or.inr (by omega)) (allS (Or.inr (by omega)) all0))), (by omega), (by omega), (by omega), f23, f24, f21, rfl⟩)
theorem gWaA01 (hw : Hw a0 Z) (G : Ow.Glo Z cz sf) (GS : GlS Z) {iof : Value} (GI : Sta Z Z.heap "jdk/internal/util/Preconditions" "IOOBE_FORMATTER" "Ljava/util/function/BiFunction;" iof ∧ iof.isRef = true) {h0 : Heap} (O0 : Old Z n0 h0) {tw : Nat} (E : Exa Z h0 tw "com/example/ply3/ply3/TextWriter") (hw0 : n0 ≤ tw) (X1 : Fld Z h0 tw "com/example/ply3/ply3/TextWriter" "text" "Ljava/lang/StringBuilder;" .null) (X2 : Fld Z h0 tw "com/example/ply3/ply3/TextWriter" "whole" "Ljava/lang/String;" .null) {ca : Nat} {kc : ClassId} {pp : Int32} (CAr : Arv Z h0 ca kc .char 2 [(.int (lo pp)), (.int (hi pp))] (.int 0)) (hca : ca < tw) :
    Ow.Con l Z EL1 n0 my49 prog_33_method_3_code 4 (Option.none : Option Jvm.ClassFile.FieldType) [] ({ frames := 9, cells := 3, slots := 52, locals := 140 } : Room) #[(.ref tw), (.ref ca), (.int 0), (.int 1)] [] h0 (fun v h S' => ∃ b' : Nat, ∃ t' : Nat, ∃ kr : ClassId, v = none ∧ Keep h0 h [tw] ∧ h0.size ≤ b' ∧ h0.size ≤ t' ∧ b' ≠ t' ∧ Fld Z h tw "com/example/ply3/ply3/TextWriter" "text" "Ljava/lang/StringBuilder;" (.ref b') ∧ Fld Z h tw "com/example/ply3/ply3/TextWriter" "whole" "Ljava/lang/String;" .null ∧ Sbd Z h b' t' kr ([] ++ [lo pp]) ∧ S' = [t']) := by
 refine Ow.Con.enter (Ls := #[vR tw, vR ca, vI 0, vI 1]) (plainFor_of_name pn6) O0 (hEW hw) (hSA hw) ?_
 intro p e s m below meth c B
 have z0 := Ow.old_le O0
 have ltw : (tw : Nat) < h0.size := E.lt
 have lca : (ca : Nat) < h0.size := CAr.lt
 refine Ow.aloadN (pc' := 1) B e49_0 ?_
 refine Ow.Go.old (fun o1 => ?_)
 refine Ow.callPrivate (pc' := 4) (W := 0) (k' := 2) (n' := 20) (argsL := []) (rest := []) (K := "com/example/ply3/ply3/TextWriter") B e49_1 (w85 hw) (w86 hw) (w87 hw) (w30 hw) (w31 hw) (w88 hw) E (gBldA hw G GS GI o1 E (by omega) X1 X2) pd32 ?_
 intro vq2 h3 S4 q2 zh3
 obtain ⟨b5, t6, k7, rfl, Kh3, f8, f9, f10, f11, f12, f13, rfl⟩ := q2
 have lb5 : (b5 : Nat) < h3.size := f13.lt
 have lt6 : (t6 : Nat) < h3.size := f13.ltt
 refine Ow.Go.norm (S' := [t6]) (st' := [(.ref b5)]) (fun _ q => q) rfl ?_
 refine Ow.aloadN (pc' := 5) B e49_4 (Ow.iloadN (pc' := 6) B e49_5 (Ow.iloadN (pc' := 7) B e49_6 ?_))
 have f14 := CAr.keep Kh3 (Ow.ninS (by omega) Ow.nin0)
 refine Ow.Go.old (fun o15 => ?_)
 refine Ow.callVirtual (pc' := 10) (W := 0) (k' := 3) (n' := 52) (argsL := [(.ref ca), (.int 0), (.int 1)]) (rest := []) (K := "java/lang/StringBuilder") B e49_7 (w107 hw) (w108 hw) (w110 hw) (w110 hw) (w109 hw) (w91 hw) (w111 hw) (f13).1 (gAppA01 hw G GS GI o15 f13 (by omega) (by omega) (by omega) f14 ⟨lo0 pp, lo16 pp⟩ ⟨hi0 pp, hi16 pp⟩ (by omega) (by omega) (by first|omega|(simp;omega)|simp)) pd34 ?_
 intro vq16 h17 S18 q16 zh17
 obtain ⟨t19, k20, rfl, Kh17, e22, f21, rfl⟩ := q16
 have lt19 : (t19 : Nat) < h17.size := f21.ltt
 refine Ow.Go.norm (S' := [t19, t6]) (st' := [(.ref b5)]) (fun _ q => q) rfl ?_
 refine Ow.pop (pc' := 11) B e49_10 ?_
 have f23 := f11.keep Kh17 (Ow.ninS (by omega) (Ow.ninS (by omega) Ow.nin0))
 have f24 := f12.keep Kh17 (Ow.ninS (by omega) (Ow.ninS (by omega) Ow.nin0))
 exact Ow.retV (S' := [t19]) B e49_11 (⟨b5, t19, k20, rfl, (((Keep.refl _ [tw]).trans Kh3 (allS (Or.inl (by simp)) all0)).trans Kh17 (allS (Or.inr (by omega)) (allS (Or.inr (by omega)) all0))), (by omega), (by omega), (by omega), f23, f24, f21, rfl⟩)
theorem con_requireNonNull_24 (hw : Hw a0 Z) (G : Ow.Glo Z cz sf) (GS : GlS Z) {iof : Value} (GI : Sta Z Z.heap "jdk/internal/util/Preconditions" "IOOBE_FORMATTER" "Ljava/util/function/BiFunction;" iof ∧ iof.isRef = true) {pa0 : Nat} {pa1 : Nat} {h0 : Heap} (O0 : Old Z n0 h0) :
    Ow.Con l Z EL1 n0 my50 jdk_31_method_11_code 2 (Option.some (Jvm.ClassFile.FieldType.object "java/lang/Object")) [] ({ frames := 0, cells := 0, slots := 0, locals := 0 } : Room) #[(.ref pa0), (.ref pa1)] [] h0 (fun v h S' => (v = some (.ref pa0) ∧ h = h0 ∧ S' = [])) := by
 refine Ow.Con.enter (Ls := #[vR pa0, vR pa1]) (plainFor_of_name pn7) O0 (hEW hw) (hSA hw) ?_
 intro p e s m below meth c B
 have z0 := Ow.old_le O0
 refine Ow.aloadN (pc' := 1) B e51_0 ?_
 refine Ow.ifnonnullT (pc' := 13) B e51_1 ?_
 refine Ow.aloadN (pc' := 14) B e51_13 ?_
 exact Ow.retA (S' := []) (t := (.object "java/lang/Object")) B e51_14 (⟨rfl, rfl, rfl⟩)
theorem gWsA (hw : Hw a0 Z) (G : Ow.Glo Z cz sf) (GS : GlS Z) {iof : Value} (GI : Sta Z Z.heap "jdk/internal/util/Preconditions" "IOOBE_FORMATTER" "Ljava/util/function/BiFunction;" iof ∧ iof.isRef = true) {h0 : Heap} (O0 : Old Z n0 h0) {tw : Nat} (E : Exa Z h0 tw "com/example/ply3/ply3/TextWriter") (hw0 : n0 ≤ tw) (X1 : Fld Z h0 tw "com/example/ply3/ply3/TextWriter" "text" "Ljava/lang/StringBuilder;" .null) (X2 : Fld Z h0 tw "com/example/ply3/ply3/TextWriter" "whole" "Ljava/lang/String;" .null) {sn t : Nat} {kt : ClassId} {ss : List Int32} (F2 : Ow.Chs Z h0 sn t kt ss) (hsn : sn < tw) (hst : t < tw) (hs2 : ss.length ≤ 2) :
    Ow.Con l Z EL1 n0 my51 prog_33_method_4_code 2 (Option.none : Option Jvm.ClassFile.FieldType) [] ({ frames := 1, cells := 2, slots := 28, locals := 13 } : Room) #[(.ref tw), (.ref sn)] [] h0 (fun v h S' => v = none ∧ Keep h0 h [tw] ∧ Fld Z h tw "com/example/ply3/ply3/TextWriter" "text" "Ljava/lang/StringBuilder;" .null ∧ Fld Z h tw "com/example/ply3/ply3/TextWriter" "whole" "Ljava/lang/String;" (.ref sn) ∧ S' = []) := by
 refine Ow.Con.enter (Ls := #[vR tw, vR sn]) (plainFor_of_name pn6) O0 (hEW hw) (hSA hw) ?_
 intro p e s m below meth c B
 have z0 := Ow.old_le O0
 have ltw : (tw : Nat) < h0.size := E.lt
 have lsn : (sn : Nat) < h0.size := F2.lt
 have lts : (t : Nat) < h0.size := F2.ltt
 refine Ow.aloadN (pc' := 1) B e50_0 ?_
 refine Ow.ldcText (pc' := 3) (k' := 2) (n' := 28) (nn := 24) (vs := [(.int 115), (.int 116), (.int 114), (.int 105), (.int 110), (.int 103)]) (z := 6) B e50_1 (w232 hw) (by decide) ⟨by decide, by decide⟩ (by decide) (by decide) ?_
 intro h2 a1 t3 kt3 Kh2 Ea1 Ca1 Va1 At3 Na1
 have zh2 := Kh2.1
 have la1 : (a1 : Nat) < h2.size := Ea1.lt
 have lt3 : (t3 : Nat) < h2.size := At3.lt
 refine Ow.Go.old (fun o4 => ?_)
 refine Ow.callStatic (pc' := 6) (W := 0) (k' := 2) (n' := 28) (argsL := [(.ref sn), (.ref a1)]) (rest := []) B e50_3 (w233 hw) (w234 hw) (w235 hw) (w236 hw) (con_requireNonNull_24 hw G GS GI (pa0 := sn) (pa1 := a1) o4) pd35 ?_
 intro vq5 h6 S7 q5 zh6
 obtain ⟨rfl, rfl, rfl⟩ := q5
 refine Ow.Go.nr (S' := []) (st' := [(.ref sn)]) ?_
 refine Ow.pop (pc' := 7) B e50_6 ?_
 refine Ow.aloadN (pc' := 8) B e50_7 ?_
 have f8 := X2.keep Kh2 Ow.nin0
 refine Ow.getfield (pc' := 11) B e50_8 (w53 hw) Via.refl f8 ?_
 refine Ow.ifnonnullF (pc' := 14) B e50_11 ?_
 refine Ow.aloadN (pc' := 15) B e50_14 ?_
 have f9 := X1.keep Kh2 Ow.nin0
 refine Ow.getfield (pc' := 18) B e50_15 (w51 hw) Via.refl f9 ?_
 refine Ow.ifnonnullF (pc' := 21) B e50_18 ?_
 refine Ow.aloadN (pc' := 22) B e50_21 (Ow.aloadN (pc' := 23) B e50_22 ?_)
 have f10 := E.keep Kh2
 refine Ow.putfield (pc' := 26) (ty := (.object "java/lang/String")) B e50_23 (w53 hw) Via.refl f8 f10 (Or.inl (w54 hw)) (w30 hw) (Or.inr ⟨by decide, by decide⟩) ?_
 intro h11 Wh11
 have Kh11 := Keep.of_wr Wh11
 have zh11 := Kh11.1
 have f12 : Fld Z h11 tw "com/example/ply3/ply3/TextWriter" "whole" "Ljava/lang/String;" (.ref sn) := f8.same Wh11
 have f13 : Fld Z h11 tw "com/example/ply3/ply3/TextWriter" "text" "Ljava/lang/StringBuilder;" .null := f9.other Wh11 (Or.inr (slot_ne (a0 := a0) (C := "com/example/ply3/ply3/TextWriter") (t := (.object "java/lang/StringBuilder")) (t' := (.object "java/lang/String")) (Or.inl (w52 hw)) (Or.inl (w54 hw)) (by decide) (by decide) (by decide)))
 refine Ow.goto (pc' := 38) B e50_26 ?_
 exact Ow.retV (S' := []) B e50_38 (⟨rfl, (((Keep.refl _ [tw]).trans Kh2 (fun _ q => nomatch q)).trans Kh11 (allS (Or.inl (by simp)) all0)), f13, f12, rfl⟩)
theorem gWiB (hw : Hw a0 Z) (G : Ow.Glo Z cz sf) (GS : GlS Z) {iof : Value} (GI : Sta Z Z.heap "jdk/internal/util/Preconditions" "IOOBE_FORMATTER" "Ljava/util/function/BiFunction;" iof ∧ iof.isRef = true) {h0 : Heap} (O0 : Old Z n0 h0) {tw : Nat} (E : Exa Z h0 tw "com/example/ply3/ply3/TextWriter") (hw0 : n0 ≤ tw) {wn wt : Nat} {wk : ClassId} {cs : List Int32} (X1 : Fld Z h0 tw "com/example/ply3/ply3/TextWriter" "text" "Ljava/lang/StringBuilder;" .null) (X2 : Fld Z h0 tw "com/example/ply3/ply3/TextWriter" "whole" "Ljava/lang/String;" (.ref wn)) (FW : Ow.Chs Z h0 wn wt wk cs) (hwn : wn < tw) (hwt : wt < tw) (hc : cs.length + 2 ≤ 16) {pp : Int32} :
    Ow.Con l Z EL1 n0 my48 prog_33_method_2_code 2 (Option.none : Option Jvm.ClassFile.FieldType) [] ({ frames := 11, cells := 4, slots := 84, locals := 155 } : Room) #[(.ref tw), (.int pp)] [] h0 (fun v h S' => ∃ b' : Nat, ∃ t' : Nat, ∃ kr : ClassId, v = none ∧ Keep h0 h [tw] ∧ h0.size ≤ b' ∧ h0.size ≤ t' ∧ b' ≠ t' ∧ Fld Z h tw "com/example/ply3/ply3/TextWriter" "text" "Ljava/lang/StringBuilder;" (.ref b') ∧ Fld Z h tw "com/example/ply3/ply3/TextWriter" "whole" "Ljava/lang/String;" .null ∧ Sbd Z h b' t' kr (cs ++ [lo pp]) ∧ S' = [t']) := by
 refine Ow.Con.enter (Ls := #[vR tw, vI pp]) (plainFor_of_name pn6) O0 (hEW hw) (hSA hw) ?_
 intro p e s m below meth c B
 have z0 := Ow.old_le O0
 have ltw : (tw : Nat) < h0.size := E.lt
 have lwn : (wn : Nat) < h0.size := FW.lt
 have lwt : (wt : Nat) < h0.size := FW.ltt
 refine Ow.aloadN (pc' := 1) B e48_0 ?_
 refine Ow.Go.old (fun o1 => ?_)
 refine Ow.callPrivate (pc' := 4) (W := 0) (k' := 3) (n' := 52) (argsL := []) (rest := []) (K := "com/example/ply3/ply3/TextWriter") B e48_1 (w85 hw) (w86 hw) (w87 hw) (w30 hw) (w31 hw) (w88 hw) E (gBldB hw G GS GI o1 E (by omega) X1 X2 FW (by omega) (by omega) (by first|omega|(simp;omega)|simp)) pd32 ?_
 intro vq2 h3 S4 q2 zh3
 obtain ⟨b5, t6, k7, rfl, Kh3, f8, f9, f10, f11, f12, f13, rfl⟩ := q2
 have lb5 : (b5 : Nat) < h3.size := f13.lt
 have lt6 : (t6 : Nat) < h3.size := f13.ltt
 refine Ow.Go.norm (S' := [t6]) (st' := [(.ref b5)]) (fun _ q => q) rfl ?_
 refine Ow.iloadN (pc' := 5) B e48_4 ?_
 refine Ow.i2c (pc' := 6) (z := (lo pp)) B e48_5 ?_
 refine Ow.Go.old (fun o14 => ?_)
 refine Ow.callVirtual (pc' := 9) (W := 0) (k' := 4) (n' := 84) (argsL := [(.int (lo pp))]) (rest := []) (K := "java/lang/StringBuilder") B e48_6 (w315 hw) (w316 hw) (w318 hw) (w318 hw) (w317 hw) (w91 hw) (w319 hw) (f13).1 (gAppC hw G GS GI (x := (lo pp)) o14 f13 (by omega) (by omega) (by omega) (lo0 pp) (lo16 pp) (by first|omega|(simp;omega)|simp)) pd33 ?_
 intro vq15 h16 S17 q15 zh16
 obtain ⟨t18, k19, rfl, Kh16, e21, f20, rfl⟩ := q15
 have lt18 : (t18 : Nat) < h16.size := f20.ltt
 refine Ow.Go.norm (S' := [t18, t6]) (st' := [(.ref b5)]) (fun _ q => q) rfl ?_
 refine Ow.pop (pc' := 10) B e48_9 ?_
 have f22 := f11.keep Kh16 (Ow.ninS (by omega) (Ow.ninS (by omega) Ow.nin0))
 have f23 := f12.keep Kh16 (Ow.ninS (by omega) (Ow.ninS (by omega) Ow.nin0))
 exact Ow.retV (S' := [t18]) B e48_10 (⟨b5, t18, k19, rfl, (((Keep.refl _ [tw]).trans Kh3 (allS (Or.inl (by simp)) all0)).trans Kh16 (allS (Or.inr (by omega)) (allS (Or.inr (by omega)) all0))), (by omega), (by omega), (by omega), f22, f23, f20, rfl⟩)
theorem gWaB00 (hw : Hw a0 Z) (G : Ow.Glo Z cz sf) (GS : GlS Z) {iof : Value} (GI : Sta Z Z.heap "jdk/internal/util/Preconditions" "IOOBE_FORMATTER" "Ljava/util/function/BiFunction;" iof ∧ iof.isRef = true) {h0 : Heap} (O0 : Old Z n0 h0) {tw : Nat} (E : Exa Z h0 tw "com/example/ply3/ply3/TextWriter") (hw0 : n0 ≤ tw) {wn wt : Nat} {wk : ClassId} {cs : List Int32} (X1 : Fld Z h0 tw "com/example/ply3/ply3/TextWriter" "text" "Ljava/lang/StringBuilder;" .null) (X2 : Fld Z h0 tw "com/example/ply3/ply3/TextWriter" "whole" "Ljava/lang/String;" (.ref wn)) (FW : Ow.Chs Z h0 wn wt wk cs) (hwn : wn < tw) (hwt : wt < tw) (hc : cs.length + 2 ≤ 16) {ca : Nat} {kc : ClassId} {pp : Int32} (CAr : Arv Z h0 ca kc .char 2 [(.int (lo pp)), (.int (hi pp))] (.int 0)) (hca : ca < tw) :
    Ow.Con l Z EL1 n0 my49 prog_33_method_3_code 4 (Option.none : Option Jvm.ClassFile.FieldType) [] ({ frames := 11, cells := 3, slots := 52, locals := 155 } : Room) #[(.ref tw), (.ref ca), (.int 0), (.int 0)] [] h0 (fun v h S' => ∃ b' : Nat, ∃ t' : Nat, ∃ kr : ClassId, v = none ∧ Keep h0 h [tw] ∧ h0.size ≤ b' ∧ h0.size ≤ t' ∧ b' ≠ t' ∧ Fld Z h tw "com/example/ply3/ply3/TextWriter" "text" "Ljava/lang/StringBuilder;" (.ref b') ∧ Fld Z h tw "com/example/ply3/ply3/TextWriter" "whole" "Ljava/lang/String;" .null ∧ Sbd Z h b' t' kr (cs) ∧ S' = [t']) := by
 refine Ow.Con.enter (Ls := #[vR tw, vR ca, vI 0, vI 0]) (plainFor_of_name pn6) O0 (hEW hw) (hSA hw) ?_
 intro p e s m below meth c B
 have z0 := Ow.old_le O0
 have ltw : (tw : Nat) < h0.size := E.lt
 have lwn : (wn : Nat) < h0.size := FW.lt
 have lwt : (wt : Nat) < h0.size := FW.ltt
 have lca : (ca : Nat) < h0.size := CAr.lt
 refine Ow.aloadN (pc' := 1) B e49_0 ?_
 refine Ow.Go.old (fun o1 => ?_)
 refine Ow.callPrivate (pc' := 4) (W := 0) (k' := 3) (n' := 52) (argsL := []) (rest := []) (K := "com/example/ply3/ply3/TextWriter") B e49_1 (w85 hw) (w86 hw) (w87 hw) (w30 hw) (w31 hw) (w88 hw) E (gBldB hw G GS GI o1 E (by omega) X1 X2 FW (by omega) (by omega) (by first|omega|(simp;omega)|simp)) pd32 ?_
 intro vq2 h3 S4 q2 zh3
 obtain ⟨b5, t6, k7, rfl, Kh3, f8, f9, f10, f11, f12, f13, rfl⟩ := q2
 have lb5 : (b5 : Nat) < h3.size := f13.lt
 have lt6 : (t6 : Nat) < h3.size := f13.ltt
 refine Ow.Go.norm (S' := [t6]) (st' := [(.ref b5)]) (fun _ q => q) rfl ?_
 refine Ow.aloadN (pc' := 5) B e49_4 (Ow.iloadN (pc' := 6) B e49_5 (Ow.iloadN (pc' := 7) B e49_6 ?_))
 have f14 := CAr.keep Kh3 (Ow.ninS (by omega) Ow.nin0)
 refine Ow.Go.old (fun o15 => ?_)
 refine Ow.callVirtual (pc' := 10) (W := 0) (k' := 3) (n' := 52) (argsL := [(.ref ca), (.int 0), (.int 0)]) (rest := []) (K := "java/lang/StringBuilder") B e49_7 (w107 hw) (w108 hw) (w110 hw) (w110 hw) (w109 hw) (w91 hw) (w111 hw) (f13).1 (gAppA00 hw G GS GI o15 f13 (by omega) (by omega) (by omega) f14 ⟨lo0 pp, lo16 pp⟩ ⟨hi0 pp, hi16 pp⟩ (by omega) (by omega) (by first|omega|(simp;omega)|simp)) pd34 ?_
 intro vq16 h17 S18 q16 zh17
 obtain ⟨t19, k20, rfl, Kh17, e22, f21, rfl⟩ := q16
 have lt19 : (t19 : Nat) < h17.size := f21.ltt
 refine Ow.Go.norm (S' := [t19, t6]) (st' := [(.ref b5)]) (fun _ q => q) rfl ?_
 refine Ow.pop (pc' := 11) B e49_10 ?_
 have f23 := f11.keep Kh17 (Ow.ninS (by omega) (Ow.ninS (by omega) Ow.nin0))
 have f24 := f12.keep Kh17 (Ow.ninS (by omega) (Ow.ninS (by omega) Ow.nin0))
 exact Ow.retV (S' := [t19]) B e49_11 (⟨b5, t19, k20, rfl, (((Keep.refl _ [tw]).trans Kh3 (allS (Or.inl (by simp)) all0)).trans Kh17 (allS (Or.inr (by omega)) (allS (Or.inr (by omega)) all0))), (by omega), (by omega), (by omega), f23, f24, f21, rfl⟩)
theorem gWaB12 (hw : Hw a0 Z) (G : Ow.Glo Z cz sf) (GS : GlS Z) {iof : Value} (GI : Sta Z Z.heap "jdk/internal/util/Preconditions" "IOOBE_FORMATTER" "Ljava/util/function/BiFunction;" iof ∧ iof.isRef = true) {h0 : Heap} (O0 : Old Z n0 h0) {tw : Nat} (E : Exa Z h0 tw "com/example/ply3/ply3/TextWriter") (hw0 : n0 ≤ tw) {wn wt : Nat} {wk : ClassId} {cs : List Int32} (X1 : Fld Z h0 tw "com/example/ply3/ply3/TextWriter" "text" "Ljava/lang/StringBuilder;" .null) (X2 : Fld Z h0 tw "com/example/ply3/ply3/TextWriter" "whole" "Ljava/lang/String;" (.ref wn)) (FW : Ow.Chs Z h0 wn wt wk cs) (hwn : wn < tw) (hwt : wt < tw) (hc : cs.length + 2 ≤ 16) {ca : Nat} {kc : ClassId} {pp : Int32} (CAr : Arv Z h0 ca kc .char 2 [(.int (lo pp)), (.int (hi pp))] (.int 0)) (hca : ca < tw) :
    Ow.Con l Z EL1 n0 my49 prog_33_method_3_code 4 (Option.none : Option Jvm.ClassFile.FieldType) [] ({ frames := 11, cells := 4, slots := 84, locals := 155 } : Room) #[(.ref tw), (.ref ca), (.int 1), (.int 1)] [] h0 (fun v h S' => ∃ b' : Nat, ∃ t' : Nat, ∃ kr : ClassId, v = none ∧ Keep h0 h [tw] ∧ h0.size ≤ b' ∧ h0.size ≤ t' ∧ b' ≠ t' ∧ Fld Z h tw "com/example/ply3/ply3/TextWriter" "text" "Ljava/lang/StringBuilder;" (.ref b') ∧ Fld Z h tw "com/example/ply3/ply3/TextWriter" "whole" "Ljava/lang/String;" .null ∧ Sbd Z h b' t' kr (cs ++ [hi pp]) ∧ S' = [t']) := by
 refine Ow.Con.enter (Ls := #[vR tw, vR ca, vI 1, vI 1]) (plainFor_of_name pn6) O0 (hEW hw) (hSA hw) ?_
 intro p e s m below meth c B
 have z0 := Ow.old_le O0
 have ltw : (tw : Nat) < h0.size := E.lt
 have lwn : (wn : Nat) < h0.size := FW.lt
 have lwt : (wt : Nat) < h0.size := FW.ltt
 have lca : (ca : Nat) < h0.size := CAr.lt
 refine Ow.aloadN (pc' := 1) B e49_0 ?_
 refine Ow.Go.old (fun o1 => ?_)
 refine Ow.callPrivate (pc' := 4) (W := 0) (k' := 3) (n' := 52) (argsL := []) (rest := []) (K := "com/example/ply3/ply3/TextWriter") B e49_1 (w85 hw) (w86 hw) (w87 hw) (w30 hw) (w31 hw) (w88 hw) E (gBldB hw G GS GI o1 E (by omega) X1 X2 FW (by omega) (by omega) (by first|omega|(simp;omega)|simp)) pd32 ?_
 intro vq2 h3 S4 q2 zh3
 obtain ⟨b5, t6, k7, rfl, Kh3, f8, f9, f10, f11, f12, f13, rfl⟩ := q2
 have lb5 : (b5 : Nat) < h3.size := f13.lt
 have lt6 : (t6 : Nat) < h3.size := f13.ltt
 refine Ow.Go.norm (S' := [t6]) (st' := [(.ref b5)]) (fun _ q => q) rfl ?_
 refine Ow.aloadN (pc' := 5) B e49_4 (Ow.iloadN (pc' := 6) B e49_5 (Ow.iloadN (pc' := 7) B e49_6 ?_))
 have f14 := CAr.keep Kh3 (Ow.ninS (by omega) Ow.nin0)
 refine Ow.Go.old (fun o15 => ?_)
 refine Ow.callVirtual (pc' := 10) (W := 0) (k' := 4) (n' := 84) (argsL := [(.ref ca), (.int 1), (.int 1)]) (rest := []) (K := "java/lang/StringBuilder") B e49_7 (w107 hw) (w108 hw) (w110 hw) (w110 hw) (w109 hw) (w91 hw) (w111 hw) (f13).1 (gAppA12 hw G GS GI o15 f13 (by omega) (by omega) (by omega) f14 ⟨lo0 pp, lo16 pp⟩ ⟨hi0 pp, hi16 pp⟩ (by omega) (by omega) (by first|omega|(simp;omega)|simp)) pd34 ?_
 intro vq16 h17 S18 q16 zh17
 obtain ⟨t19, k20, rfl, Kh17, e22, f21, rfl⟩ := q16
 have lt19 : (t19 : Nat) < h17.size := f21.ltt
 refine Ow.Go.norm (S' := [t19, t6]) (st' := [(.ref b5)]) (fun _ q => q) rfl ?_
 refine Ow.pop (pc' := 11) B e49_10 ?_
 have f23 := f11.keep Kh17 (Ow.ninS (by omega) (Ow.ninS (by omega) Ow.nin0))
 have f24 := f12.keep Kh17 (Ow.ninS (by omega) (Ow.ninS (by omega) Ow.nin0))
 exact Ow.retV (S' := [t19]) B e49_11 (⟨b5, t19, k20, rfl, (((Keep.refl _ [tw]).trans Kh3 (allS (Or.inl (by simp)) all0)).trans Kh17 (allS (Or.inr (by omega)) (allS (Or.inr (by omega)) all0))), (by omega), (by omega), (by omega), f23, f24, f21, rfl⟩)
theorem gWaB02 (hw : Hw a0 Z) (G : Ow.Glo Z cz sf) (GS : GlS Z) {iof : Value} (GI : Sta Z Z.heap "jdk/internal/util/Preconditions" "IOOBE_FORMATTER" "Ljava/util/function/BiFunction;" iof ∧ iof.isRef = true) {h0 : Heap} (O0 : Old Z n0 h0) {tw : Nat} (E : Exa Z h0 tw "com/example/ply3/ply3/TextWriter") (hw0 : n0 ≤ tw) {wn wt : Nat} {wk : ClassId} {cs : List Int32} (X1 : Fld Z h0 tw "com/example/ply3/ply3/TextWriter" "text" "Ljava/lang/StringBuilder;" .null) (X2 : Fld Z h0 tw "com/example/ply3/ply3/TextWriter" "whole" "Ljava/lang/String;" (.ref wn)) (FW : Ow.Chs Z h0 wn wt wk cs) (hwn : wn < tw) (hwt : wt < tw) (hc : cs.length + 2 ≤ 16) {ca : Nat} {kc : ClassId} {pp : Int32} (CAr : Arv Z h0 ca kc .char 2 [(.int (lo pp)), (.int (hi pp))] (.int 0)) (hca : ca < tw) :
    Ow.Con l Z EL1 n0 my49 prog_33_method_3_code 4 (Option.none : Option Jvm.ClassFile.FieldType) [] ({ frames := 11, cells := 4, slots := 84, locals := 155 } : Room) #[(.ref tw), (.ref ca), (.int 0), (.int 2)] [] h0 (fun v h S' => ∃ b' : Nat, ∃ t' : Nat, ∃ kr : ClassId, v = none ∧ Keep h0 h [tw] ∧ h0.size ≤ b' ∧ h0.size ≤ t' ∧ b' ≠ t' ∧ Fld Z h tw "com/example/ply3/ply3/TextWriter" "text" "Ljava/lang/StringBuilder;" (.ref b') ∧ Fld Z h tw "com/example/ply3/ply3/TextWriter" "whole" "Ljava/lang/String;" .null ∧ Sbd Z h b' t' kr (cs ++ [lo pp, hi pp]) ∧ S' = [t']) := by
 refine Ow.Con.enter (Ls := #[vR tw, vR ca, vI 0, vI 2]) (plainFor_of_name pn6) O0 (hEW hw) (hSA hw) ?_
 intro p e s m below meth c B
 have z0 := Ow.old_le O0
 have ltw : (tw : Nat) < h0.size := E.lt
 have lwn : (wn : Nat) < h0.size := FW.lt
 have lwt : (wt : Nat) < h0.size := FW.ltt
 have lca : (ca : Nat) < h0.size := CAr.lt
 refine Ow.aloadN (pc' := 1) B e49_0 ?_
 refine Ow.Go.old (fun o1 => ?_)
 refine Ow.callPrivate (pc' := 4) (W := 0) (k' := 3) (n' := 52) (argsL := []) (rest := []) (K := "com/example/ply3/ply3/TextWriter") B e49_1 (w85 hw) (w86 hw) (w87 hw) (w30 hw) (w31 hw) (w88 hw) E (gBldB hw G GS GI o1 E (by omega) X1 X2 FW (by omega) (by omega) (by first|omega|(simp;omega)|simp)) pd32 ?_
 intro vq2 h3 S4 q2 zh3
 obtain ⟨b5, t6, k7, rfl, Kh3, f8, f9, f10, f11, f12, f13, rfl⟩ := q2
 have lb5 : (b5 : Nat) < h3.size := f13.lt
 have lt6 : (t6 : Nat) < h3.size := f13.ltt
 refine Ow.Go.norm (S' := [t6]) (st' := [(.ref b5)]) (fun _ q => q) rfl ?_
 refine Ow.aloadN (pc' := 5) B e49_4 (Ow.iloadN (pc' := 6) B e49_5 (Ow.iloadN (pc' := 7) B e49_6 ?_))
 have f14 := CAr.keep Kh3 (Ow.ninS (by omega) Ow.nin0)
 refine Ow.Go.old (fun o15 => ?_)
 refine Ow.callVirtual (pc' := 10) (W := 0) (k' := 4) (n' := 84) (argsL := [(.ref ca), (.int 0), (.int 2)]) (rest := []) (K := "java/lang/StringBuilder") B e49_7 (w107 hw) (w108 hw) (w110 hw) (w110 hw) (w109 hw) (w91 hw) (w111 hw) (f13).1 (gAppA02 hw G GS GI o15 f13 (by omega) (by omega) (by omega) f14 ⟨lo0 pp, lo16 pp⟩ ⟨hi0 pp, hi16 pp⟩ (by omega) (by omega) (by first|omega|(simp;omega)|simp)) pd34 ?_
 intro vq16 h17 S18 q16 zh17
 obtain ⟨t19, k20, rfl, Kh17, e22, f21, rfl⟩ := q16
 have lt19 : (t19 : Nat) < h17.size := f21.ltt
 refine Ow.Go.norm (S' := [t19, t6]) (st' := [(.ref b5)]) (fun _ q => q) rfl ?_
 refine Ow.pop (pc' := 11) B e49_10 ?_
 have f23 := f11.keep Kh17 (Ow.ninS (by omega) (Ow.ninS (by omega) Ow.nin0))
 have f24 := f12.keep Kh17 (Ow.ninS (by omega) (Ow.ninS (by omega) Ow.nin0))
 exact Ow.retV (S' := [t19]) B e49_11 (⟨b5, t19, k20, rfl, (((Keep.refl _ [tw]).trans Kh3 (allS (Or.inl (by simp)) all0)).trans Kh17 (allS (Or.inr (by omega)) (allS (Or.inr (by omega)) all0))), (by omega), (by omega), (by omega), f23, f24, f21, rfl⟩)
theorem gWaB01 (hw : Hw a0 Z) (G : Ow.Glo Z cz sf) (GS : GlS Z) {iof : Value} (GI : Sta Z Z.heap "jdk/internal/util/Preconditions" "IOOBE_FORMATTER" "Ljava/util/function/BiFunction;" iof ∧ iof.isRef = true) {h0 : Heap} (O0 : Old Z n0 h0) {tw : Nat} (E : Exa Z h0 tw "com/example/ply3/ply3/TextWriter") (hw0 : n0 ≤ tw) {wn wt : Nat} {wk : ClassId} {cs : List Int32} (X1 : Fld Z h0 tw "com/example/ply3/ply3/TextWriter" "text" "Ljava/lang/StringBuilder;" .null) (X2 : Fld Z h0 tw "com/example/ply3/ply3/TextWriter" "whole" "Ljava/lang/String;" (.ref wn)) (FW : Ow.Chs Z h0 wn wt wk cs) (hwn : wn < tw) (hwt : wt < tw) (hc : cs.length + 2 ≤ 16) {ca : Nat} {kc : ClassId} {pp : Int32} (CAr : Arv Z h0 ca kc .char 2 [(.int (lo pp)), (.int (hi pp))] (.int 0)) (hca : ca < tw) :
    Ow.Con l Z EL1 n0 my49 prog_33_method_3_code 4 (Option.none : Option Jvm.ClassFile.FieldType) [] ({ frames := 11, cells := 4, slots := 84, locals := 155 } : Room) #[(.ref tw), (.ref ca), (.int 0), (.int 1)] [] h0 (fun v h S' => ∃ b' : Nat, ∃ t' : Nat, ∃ kr : ClassId, v = none ∧ Keep h0 h [tw] ∧ h0.size ≤ b' ∧ h0.size ≤ t' ∧ b' ≠ t' ∧ Fld Z h tw "com/example/ply3/ply3/TextWriter" "text" "Ljava/lang/StringBuilder;" (.ref b') ∧ Fld Z h tw "com/example/ply3/ply3/TextWriter" "whole" "Ljava/lang/String;" .null ∧ Sbd Z h b' t' kr (cs ++ [lo pp]) ∧ S' = [t']) := by
 refine Ow.Con.enter (Ls := #[vR tw, vR ca, vI 0, vI 1]) (plainFor_of_name pn6) O0 (hEW hw) (hSA hw) ?_
 intro p e s m below meth c B
 have z0 := Ow.old_le O0
 have ltw : (tw : Nat) < h0.size := E.lt
 have lwn : (wn : Nat) < h0.size := FW.lt
 have lwt : (wt : Nat) < h0.size := FW.ltt
 have lca : (ca : Nat) < h0.size := CAr.lt
 refine Ow.aloadN (pc' := 1) B e49_0 ?_
 refine Ow.Go.old (fun o1 => ?_)
 refine Ow.callPrivate (pc' := 4) (W := 0) (k' := 3) (n' := 52) (argsL := []) (rest := []) (K := "com/example/ply3/ply3/TextWriter") B e49_1 (w85 hw) (w86 hw) (w87 hw) (w30 hw) (w31 hw) (w88 hw) E (gBldB hw G GS GI o1 E (by omega) X1 X2 FW (by omega) (by omega) (by first|omega|(simp;omega)|simp)) pd32 ?_
 intro vq2 h3 S4 q2 zh3
 obtain ⟨b5, t6, k7, rfl, Kh3, f8, f9, f10, f11, f12, f13, rfl⟩ := q2
 have lb5 : (b5 : Nat) < h3.size := f13.lt
 have lt6 : (t6 : Nat) < h3.size := f13.ltt
 refine Ow.Go.norm (S' := [t6]) (st' := [(.ref b5)]) (fun _ q => q) rfl ?_
 refine Ow.aloadN (pc' := 5) B e49_4 (Ow.iloadN (pc' := 6) B e49_5 (Ow.iloadN (pc' := 7) B e49_6 ?_))
 have f14 := CAr.keep Kh3 (Ow.ninS (by omega) Ow.nin0)
 refine Ow.Go.old (fun o15 => ?_)
 refine Ow.callVirtual (pc' := 10) (W := 0) (k' := 4) (n' := 84) (argsL := [(.ref ca), (.int 0), (.int 1)]) (rest := []) (K := "java/lang/StringBuilder") B e49_7 (w107 hw) (w108 hw) (w110 hw) (w110 hw) (w109 hw) (w91 hw) (w111 hw) (f13).1 (gAppA01 hw G GS GI o15 f13 (by omega) (by omega) (by omega) f14 ⟨lo0 pp, lo16 pp⟩ ⟨hi0 pp, hi16 pp⟩ (by omega) (by omega) (by first|omega|(simp;omega)|simp)) pd34 ?_
 intro vq16 h17 S18 q16 zh17
 obtain ⟨t19, k20, rfl, Kh17, e22, f21, rfl⟩ := q16
 have lt19 : (t19 : Nat) < h17.size := f21.ltt
 refine Ow.Go.norm (S' := [t19, t6]) (st' := [(.ref b5)]) (fun _ q => q) rfl ?_
 refine Ow.pop (pc' := 11) B e49_10 ?_
 have f23 := f11.keep Kh17 (Ow.ninS (by omega) (Ow.ninS (by omega) Ow.nin0))
 have f24 := f12.keep Kh17 (Ow.ninS (by omega) (Ow.ninS (by omega) Ow.nin0))
 exact Ow.retV (S' := [t19]) B e49_11 (⟨b5, t19, k20, rfl, (((Keep.refl _ [tw]).trans Kh3 (allS (Or.inl (by simp)) all0)).trans Kh17 (allS (Or.inr (by omega)) (allS (Or.inr (by omega)) all0))), (by omega), (by omega), (by omega), f23, f24, f21, rfl⟩)
theorem gWsB (hw : Hw a0 Z) (G : Ow.Glo Z cz sf) (GS : GlS Z) {iof : Value} (GI : Sta Z Z.heap "jdk/internal/util/Preconditions" "IOOBE_FORMATTER" "Ljava/util/function/BiFunction;" iof ∧ iof.isRef = true) {h0 : Heap} (O0 : Old Z n0 h0) {tw : Nat} (E : Exa Z h0 tw "com/example/ply3/ply3/TextWriter") (hw0 : n0 ≤ tw) {wn wt : Nat} {wk : ClassId} {cs : List Int32} (X1 : Fld Z h0 tw "com/example/ply3/ply3/TextWriter" "text" "Ljava/lang/StringBuilder;" .null) (X2 : Fld Z h0 tw "com/example/ply3/ply3/TextWriter" "whole" "Ljava/lang/String;" (.ref wn)) (FW : Ow.Chs Z h0 wn wt wk cs) (hwn : wn < tw) (hwt : wt < tw) (hc : cs.length + 2 ≤ 16) {sn t : Nat} {kt : ClassId} {ss : List Int32} (F2 : Ow.Chs Z h0 sn t kt ss) (hsn : sn < tw) (hst : t < tw) (hs2 : ss.length ≤ 2) :
    Ow.Con l Z EL1 n0 my51 prog_33_method_4_code 2 (Option.none : Option Jvm.ClassFile.FieldType) [] ({ frames := 11, cells := 6, slots := 112, locals := 155 } : Room) #[(.ref tw), (.ref sn)] [] h0 (fun v h S' => ∃ b' : Nat, ∃ t' : Nat, ∃ kr : ClassId, v = none ∧ Keep h0 h [tw] ∧ h0.size ≤ b' ∧ h0.size ≤ t' ∧ b' ≠ t' ∧ Fld Z h tw "com/example/ply3/ply3/TextWriter" "text" "Ljava/lang/StringBuilder;" (.ref b') ∧ Fld Z h tw "com/example/ply3/ply3/TextWriter" "whole" "Ljava/lang/String;" .null ∧ Sbd Z h b' t' kr (cs ++ ss) ∧ S' = [t']) := by
 refine Ow.Con.enter (Ls := #[vR tw, vR sn]) (plainFor_of_name pn6) O0 (hEW hw) (hSA hw) ?_
 intro p e s m below meth c B
 have z0 := Ow.old_le O0
 have ltw : (tw : Nat) < h0.size := E.lt
 have lwn : (wn : Nat) < h0.size := FW.lt
 have lwt : (wt : Nat) < h0.size := FW.ltt
 have lsn : (sn : Nat) < h0.size := F2.lt
 have lts : (t : Nat) < h0.size := F2.ltt
 refine Ow.aloadN (pc' := 1) B e50_0 ?_
 refine Ow.ldcText (pc' := 3) (k' := 2) (n' := 28) (nn := 24) (vs := [(.int 115), (.int 116), (.int 114), (.int 105), (.int 110), (.int 103)]) (z := 6) B e50_1 (w232 hw) (by decide) ⟨by decide, by decide⟩ (by decide) (by decide) ?_
 intro h2 a1 t3 kt3 Kh2 Ea1 Ca1 Va1 At3 Na1
 have zh2 := Kh2.1
 have la1 : (a1 : Nat) < h2.size := Ea1.lt
 have lt3 : (t3 : Nat) < h2.size := At3.lt
 refine Ow.Go.old (fun o4 => ?_)
 refine Ow.callStatic (pc' := 6) (W := 0) (k' := 2) (n' := 28) (argsL := [(.ref sn), (.ref a1)]) (rest := []) B e50_3 (w233 hw) (w234 hw) (w235 hw) (w236 hw) (con_requireNonNull_24 hw G GS GI (pa0 := sn) (pa1 := a1) o4) pd35 ?_
 intro vq5 h6 S7 q5 zh6
 obtain ⟨rfl, rfl, rfl⟩ := q5
 refine Ow.Go.nr (S' := []) (st' := [(.ref sn)]) ?_
 refine Ow.pop (pc' := 7) B e50_6 ?_
 refine Ow.aloadN (pc' := 8) B e50_7 ?_
 have f8 := X2.keep Kh2 Ow.nin0
 refine Ow.getfield (pc' := 11) B e50_8 (w53 hw) Via.refl f8 ?_
 refine Ow.ifnonnullT (pc' := 29) B e50_11 ?_
 refine Ow.aloadN (pc' := 30) B e50_29 ?_
 refine Ow.Go.old (fun o9 => ?_)
 have f10 := E.keep Kh2
 have f11 := X1.keep Kh2 Ow.nin0
 have f12 := FW.keep Kh2 Ow.nin0 Ow.nin0
 refine Ow.callPrivate (pc' := 33) (W := 0) (k' := 5) (n' := 80) (argsL := []) (rest := []) (K := "com/example/ply3/ply3/TextWriter") B e50_30 (w85 hw) (w86 hw) (w87 hw) (w30 hw) (w31 hw) (w88 hw) f10 (gBldB hw G GS GI o9 f10 (by omega) f11 f8 f12 (by omega) (by omega) (by first|omega|(simp;omega)|simp)) pd32 ?_
 intro vq13 h14 S15 q13 zh14
 obtain ⟨b16, t17, k18, rfl, Kh14, f19, f20, f21, f22, f23, f24, rfl⟩ := q13
 have lb16 : (b16 : Nat) < h14.size := f24.lt
 have lt17 : (t17 : Nat) < h14.size := f24.ltt
 refine Ow.Go.norm (S' := [t17]) (st' := [(.ref b16)]) (fun _ q => q) rfl ?_
 refine Ow.aloadN (pc' := 34) B e50_33 ?_
 have f25 := F2.keep Kh2 Ow.nin0 Ow.nin0
 have f26 := f25.keep Kh14 (Ow.ninS (by omega) Ow.nin0) (Ow.ninS (by omega) Ow.nin0)
 refine Ow.Go.old (fun o27 => ?_)
 refine Ow.callVirtual (pc' := 37) (W := 0) (k' := 6) (n' := 112) (argsL := [(.ref sn)]) (rest := []) (K := "java/lang/StringBuilder") B e50_34 (w237 hw) (w238 hw) (w240 hw) (w240 hw) (w239 hw) (w91 hw) (w241 hw) (f24).1 (gAppS hw G GS GI o27 f24 (by omega) (by omega) (by omega) f26 (by omega) (by omega) (by omega) (by omega) (by first|omega|(simp;omega)|simp)) pd31 ?_
 intro vq28 h29 S30 q28 zh29
 obtain ⟨t31, k32, rfl, Kh29, e34, f33, rfl⟩ := q28
 have lt31 : (t31 : Nat) < h29.size := f33.ltt
 refine Ow.Go.norm (S' := [t31, t17]) (st' := [(.ref b16)]) (fun _ q => q) rfl ?_
 refine Ow.pop (pc' := 38) B e50_37 ?_
 have f35 := f22.keep Kh29 (Ow.ninS (by omega) (Ow.ninS (by omega) Ow.nin0))
 have f36 := f23.keep Kh29 (Ow.ninS (by omega) (Ow.ninS (by omega) Ow.nin0))
 exact Ow.retV (S' := [t31]) B e50_38 (⟨b16, t31, k32, rfl, ((((Keep.refl _ [tw]).trans Kh2 (fun _ q => nomatch q)).trans Kh14 (allS (Or.inl (by simp)) all0)).trans Kh29 (allS (Or.inr (by omega)) (allS (Or.inr (by omega)) all0))), (by omega), (by omega), (by omega), f35, f36, f33, rfl⟩)
theorem gWiC (hw : Hw a0 Z) (G : Ow.Glo Z cz sf) (GS : GlS Z) {iof : Value} (GI : Sta Z Z.heap "jdk/internal/util/Preconditions" "IOOBE_FORMATTER" "Ljava/util/function/BiFunction;" iof ∧ iof.isRef = true) {h0 : Heap} (O0 : Old Z n0 h0) {tw : Nat} (E : Exa Z h0 tw "com/example/ply3/ply3/TextWriter") (hw0 : n0 ≤ tw) {b vb : Nat} {kv : ClassId} {cs : List Int32} (X1 : Fld Z h0 tw "com/example/ply3/ply3/TextWriter" "text" "Ljava/lang/StringBuilder;" (.ref b)) (X2 : Fld Z h0 tw "com/example/ply3/ply3/TextWriter" "whole" "Ljava/lang/String;" .null) (F : Sbd Z h0 b vb kv cs) (hwb : tw < b) (hwv : tw < vb) (hne : b ≠ vb) (hc : cs.length + 2 ≤ 16) {pp : Int32} :
    Ow.Con l Z EL1 n0 my48 prog_33_method_2_code 2 (Option.none : Option Jvm.ClassFile.FieldType) [] ({ frames := 8, cells := 1, slots := 32, locals := 115 } : Room) #[(.ref tw), (.int pp)] [vb] h0 (fun v h S' => ∃ b' : Nat, ∃ t' : Nat, ∃ kr : ClassId, v = none ∧ Keep h0 h [tw, b, vb] ∧ (b' = b ∨ h0.size ≤ b') ∧ (t' = vb ∨ h0.size ≤ t') ∧ b' ≠ t' ∧ Fld Z h tw "com/example/ply3/ply3/TextWriter" "text" "Ljava/lang/StringBuilder;" (.ref b') ∧ Fld Z h tw "com/example/ply3/ply3/TextWriter" "whole" "Ljava/lang/String;" .null ∧ Sbd Z h b' t' kr (cs ++ [lo pp]) ∧ S' = [t']) := by
 refine Ow.Con.enter (Ls := #[vR tw, vI pp]) (plainFor_of_name pn6) O0 (hEW hw) (hSA hw) ?_
 intro p e s m below meth c B
 have z0 := Ow.old_le O0
 have ltw : (tw : Nat) < h0.size := E.lt
 have lb : (b : Nat) < h0.size := F.lt
 have lvb : (vb : Nat) < h0.size := F.ltt
 refine Ow.aloadN (pc' := 1) B e48_0 ?_
 refine Ow.Go.old (fun o1 => ?_)
 refine Ow.callPrivate (pc' := 4) (W := 0) (k' := 0) (n' := 0) (argsL := []) (rest := []) (K := "com/example/ply3/ply3/TextWriter") B e48_1 (w85 hw) (w86 hw) (w87 hw) (w30 hw) (w31 hw) (w88 hw) E (gBldC hw G GS GI o1 E (by omega) X1 X2 F (by omega) (by omega) (by omega) (by first|omega|(simp;omega)|simp)) pd32 ?_
 intro vq2 h3 S4 q2 zh3
 obtain ⟨rfl, rfl, rfl⟩ := q2
 refine Ow.Go.nr (S' := [vb]) (st' := [(.ref b)]) ?_
 refine Ow.iloadN (pc' := 5) B e48_4 ?_
 refine Ow.i2c (pc' := 6) (z := (lo pp)) B e48_5 ?_
 refine Ow.Go.old (fun o5 => ?_)
 refine Ow.callVirtual (pc' := 9) (W := 0) (k' := 1) (n' := 32) (argsL := [(.int (lo pp))]) (rest := []) (K := "java/lang/StringBuilder") B e48_6 (w315 hw) (w316 hw) (w318 hw) (w318 hw) (w317 hw) (w91 hw) (w319 hw) (F).1 (gAppC hw G GS GI (x := (lo pp)) o5 F (by omega) (by omega) (by omega) (lo0 pp) (lo16 pp) (by first|omega|(simp;omega)|simp)) pd33 ?_
 intro vq6 h7 S8 q6 zh7
 obtain ⟨t9, k10, rfl, Kh7, e12, f11, rfl⟩ := q6
 have lt9 : (t9 : Nat) < h7.size := f11.ltt
 refine Ow.Go.norm (S' := [t9, vb]) (st' := [(.ref b)]) (fun _ q => q) rfl ?_
 refine Ow.pop (pc' := 10) B e48_9 ?_
 have f13 := X1.keep Kh7 (Ow.ninS (by omega) (Ow.ninS (by omega) Ow.nin0))
 have f14 := X2.keep Kh7 (Ow.ninS (by omega) (Ow.ninS (by omega) Ow.nin0))
 exact Ow.retV (S' := [t9]) B e48_10 (⟨b, t9, k10, rfl, ((Keep.refl _ [tw, b, vb]).trans Kh7 (allS (Or.inl (by simp)) (allS (Or.inl (by simp)) all0))), Or.inl rfl, (by omega), (by omega), f13, f14, f11, rfl⟩)
theorem gWaC00 (hw : Hw a0 Z) (G : Ow.Glo Z cz sf) (GS : GlS Z) {iof : Value} (GI : Sta Z Z.heap "jdk/internal/util/Preconditions" "IOOBE_FORMATTER" "Ljava/util/function/BiFunction;" iof ∧ iof.isRef = true) {h0 : Heap} (O0 : Old Z n0 h0) {tw : Nat} (E : Exa Z h0 tw "com/example/ply3/ply3/TextWriter") (hw0 : n0 ≤ tw) {b vb : Nat} {kv : ClassId} {cs : List Int32} (X1 : Fld Z h0 tw "com/example/ply3/ply3/TextWriter" "text" "Ljava/lang/StringBuilder;" (.ref b)) (X2 : Fld Z h0 tw "com/example/ply3/ply3/TextWriter" "whole" "Ljava/lang/String;" .null) (F : Sbd Z h0 b vb kv cs) (hwb : tw < b) (hwv : tw < vb) (hne : b ≠ vb) (hc : cs.length + 2 ≤ 16) {ca : Nat} {kc : ClassId} {pp : Int32} (CAr : Arv Z h0 ca kc .char 2 [(.int (lo pp)), (.int (hi pp))] (.int 0)) (hca : ca < tw) :
    Ow.Con l Z EL1 n0 my49 prog_33_method_3_code 4 (Option.none : Option Jvm.ClassFile.FieldType) [] ({ frames := 7, cells := 0, slots := 0, locals := 110 } : Room) #[(.ref tw), (.ref ca), (.int 0), (.int 0)] [vb] h0 (fun v h S' => ∃ b' : Nat, ∃ t' : Nat, ∃ kr : ClassId, v = none ∧ Keep h0 h [tw, b, vb] ∧ (b' = b ∨ h0.size ≤ b') ∧ (t' = vb ∨ h0.size ≤ t') ∧ b' ≠ t' ∧ Fld Z h tw "com/example/ply3/ply3/TextWriter" "text" "Ljava/lang/StringBuilder;" (.ref b') ∧ Fld Z h tw "com/example/ply3/ply3/TextWriter" "whole" "Ljava/lang/String;" .null ∧ Sbd Z h b' t' kr (cs) ∧ S' = [t']) := by
 refine Ow.Con.enter (Ls := #[vR tw, vR ca, vI 0, vI 0]) (plainFor_of_name pn6) O0 (hEW hw) (hSA hw) ?_
 intro p e s m below meth c B
 have z0 := Ow.old_le O0
 have ltw : (tw : Nat) < h0.size := E.lt
 have lb : (b : Nat) < h0.size := F.lt
 have lvb : (vb : Nat) < h0.size := F.ltt
 have lca : (ca : Nat) < h0.size := CAr.lt
 refine Ow.aloadN (pc' := 1) B e49_0 ?_
 refine Ow.Go.old (fun o1 => ?_)
 refine Ow.callPrivate (pc' := 4) (W := 0) (k' := 0) (n' := 0) (argsL := []) (rest := []) (K := "com/example/ply3/ply3/TextWriter") B e49_1 (w85 hw) (w86 hw) (w87 hw) (w30 hw) (w31 hw) (w88 hw) E (gBldC hw G GS GI o1 E (by omega) X1 X2 F (by omega) (by omega) (by omega) (by first|omega|(simp;omega)|simp)) pd32 ?_
 intro vq2 h3 S4 q2 zh3
 obtain ⟨rfl, rfl, rfl⟩ := q2
 refine Ow.Go.nr (S' := [vb]) (st' := [(.ref b)]) ?_
 refine Ow.aloadN (pc' := 5) B e49_4 (Ow.iloadN (pc' := 6) B e49_5 (Ow.iloadN (pc' := 7) B e49_6 ?_))
 refine Ow.Go.old (fun o5 => ?_)
 refine Ow.callVirtual (pc' := 10) (W := 0) (k' := 0) (n' := 0) (argsL := [(.ref ca), (.int 0), (.int 0)]) (rest := []) (K := "java/lang/StringBuilder") B e49_7 (w107 hw) (w108 hw) (w110 hw) (w110 hw) (w109 hw) (w91 hw) (w111 hw) (F).1 (gAppA00 hw G GS GI o5 F (by omega) (by omega) (by omega) CAr ⟨lo0 pp, lo16 pp⟩ ⟨hi0 pp, hi16 pp⟩ (by omega) (by omega) (by first|omega|(simp;omega)|simp)) pd34 ?_
 intro vq6 h7 S8 q6 zh7
 obtain ⟨t9, k10, rfl, Kh7, e12, f11, rfl⟩ := q6
 have lt9 : (t9 : Nat) < h7.size := f11.ltt
 refine Ow.Go.norm (S' := [t9, vb]) (st' := [(.ref b)]) (fun _ q => q) rfl ?_
 refine Ow.pop (pc' := 11) B e49_10 ?_
 have f13 := X1.keep Kh7 (Ow.ninS (by omega) (Ow.ninS (by omega) Ow.nin0))
 have f14 := X2.keep Kh7 (Ow.ninS (by omega) (Ow.ninS (by omega) Ow.nin0))
 exact Ow.retV (S' := [t9]) B e49_11 (⟨b, t9, k10, rfl, ((Keep.refl _ [tw, b, vb]).trans Kh7 (allS (Or.inl (by simp)) (allS (Or.inl (by simp)) all0))), Or.inl rfl, (by omega), (by omega), f13, f14, f11, rfl⟩)
theorem gWaC12 (hw : Hw a0 Z) (G : Ow.Glo Z cz sf) (GS : GlS Z) {iof : Value} (GI : Sta Z Z.heap "jdk/internal/util/Preconditions" "IOOBE_FORMATTER" "Ljava/util/function/BiFunction;" iof ∧ iof.isRef = true) {h0 : Heap} (O0 : Old Z n0 h0) {tw : Nat} (E : Exa Z h0 tw "com/example/ply3/ply3/TextWriter") (hw0 : n0 ≤ tw) {b vb : Nat} {kv : ClassId} {cs : List Int32} (X1 : Fld Z h0 tw "com/example/ply3/ply3/TextWriter" "text" "Ljava/lang/StringBuilder;" (.ref b)) (X2 : Fld Z h0 tw "com/example/ply3/ply3/TextWriter" "whole" "Ljava/lang/String;" .null) (F : Sbd Z h0 b vb kv cs) (hwb : tw < b) (hwv : tw < vb) (hne : b ≠ vb) (hc : cs.length + 2 ≤ 16) {ca : Nat} {kc : ClassId} {pp : Int32} (CAr : Arv Z h0 ca kc .char 2 [(.int (lo pp)), (.int (hi pp))] (.int 0)) (hca : ca < tw) :
    Ow.Con l Z EL1 n0 my49 prog_33_method_3_code 4 (Option.none : Option Jvm.ClassFile.FieldType) [] ({ frames := 9, cells := 1, slots := 32, locals := 140 } : Room) #[(.ref tw), (.ref ca), (.int 1), (.int 1)] [vb] h0 (fun v h S' => ∃ b' : Nat, ∃ t' : Nat, ∃ kr : ClassId, v = none ∧ Keep h0 h [tw, b, vb] ∧ (b' = b ∨ h0.size ≤ b') ∧ (t' = vb ∨ h0.size ≤ t') ∧ b' ≠ t' ∧ Fld Z h tw "com/example/ply3/ply3/TextWriter" "text" "Ljava/lang/StringBuilder;" (.ref b') ∧ Fld Z h tw "com/example/ply3/ply3/TextWriter" "whole" "Ljava/lang/String;" .null ∧ Sbd Z h b' t' kr (cs ++ [hi pp]) ∧ S' = [t']) := by
 refine Ow.Con.enter (Ls := #[vR tw, vR ca, vI 1, vI 1]) (plainFor_of_name pn6) O0 (hEW hw) (hSA hw) ?_
 intro p e s m below meth c B
 have z0 := Ow.old_le O0
 have ltw : (tw : Nat) < h0.size := E.lt
 have lb : (b : Nat) < h0.size := F.lt
 have lvb : (vb : Nat) < h0.size := F.ltt
 have lca : (ca : Nat) < h0.size := CAr.lt
 refine Ow.aloadN (pc' := 1) B e49_0 ?_
 refine Ow.Go.old (fun o1 => ?_)
 refine Ow.callPrivate (pc' := 4) (W := 0) (k' := 0) (n' := 0) (argsL := []) (rest := []) (K := "com/example/ply3/ply3/TextWriter") B e49_1 (w85 hw) (w86 hw) (w87 hw) (w30 hw) (w31 hw) (w88 hw) E (gBldC hw G GS GI o1 E (by omega) X1 X2 F (by omega) (by omega) (by omega) (by first|omega|(simp;omega)|simp)) pd32 ?_
 intro vq2 h3 S4 q2 zh3
 obtain ⟨rfl, rfl, rfl⟩ := q2
 refine Ow.Go.nr (S' := [vb]) (st' := [(.ref b)]) ?_
 refine Ow.aloadN (pc' := 5) B e49_4 (Ow.iloadN (pc' := 6) B e49_5 (Ow.iloadN (pc' := 7) B e49_6 ?_))
 refine Ow.Go.old (fun o5 => ?_)
 refine Ow.callVirtual (pc' := 10) (W := 0) (k' := 1) (n' := 32) (argsL := [(.ref ca), (.int 1), (.int 1)]) (rest := []) (K := "java/lang/StringBuilder") B e49_7 (w107 hw) (w108 hw) (w110 hw) (w110 hw) (w109 hw) (w91 hw) (w111 hw) (F).1 (gAppA12 hw G GS GI o5 F (by omega) (by omega) (by omega) CAr ⟨lo0 pp, lo16 pp⟩ ⟨hi0 pp, hi16 pp⟩ (by omega) (by omega) (by first|omega|(simp;omega)|simp)) pd34 ?_
 intro vq6 h7 S8 q6 zh7
 obtain ⟨t9, k10, rfl, Kh7, e12, f11, rfl⟩ := q6
 have lt9 : (t9 : Nat) < h7.size := f11.ltt
 refine Ow.Go.norm (S' := [t9, vb]) (st' := [(.ref b)]) (fun _ q => q) rfl ?_
 refine Ow.pop (pc' := 11) B e49_10 ?_
 have f13 := X1.keep Kh7 (Ow.ninS (by omega) (Ow.ninS (by omega) Ow.nin0))
 have f14 := X2.keep Kh7 (Ow.ninS (by omega) (Ow.ninS (by omega) Ow.nin0))
 exact Ow.retV (S' := [t9]) B e49_11 (⟨b, t9, k10, rfl, ((Keep.refl _ [tw, b, vb]).trans Kh7 (allS (Or.inl (by simp)) (allS (Or.inl (by simp)) all0))), Or.inl rfl, (by omega), (by omega), f13, f14, f11, rfl⟩)
theorem gWaC02 (hw : Hw a0 Z) (G : Ow.Glo Z cz sf) (GS : GlS Z) {iof : Value} (GI : Sta Z Z.heap "jdk/internal/util/Preconditions" "IOOBE_FORMATTER" "Ljava/util/function/BiFunction;" iof ∧ iof.isRef = true) {h0 : Heap} (O0 : Old Z n0 h0) {tw : Nat} (E : Exa Z h0 tw "com/example/ply3/ply3/TextWriter") (hw0 : n0 ≤ tw) {b vb : Nat} {kv : ClassId} {cs : List Int32} (X1 : Fld Z h0 tw "com/example/ply3/ply3/TextWriter" "text" "Ljava/lang/StringBuilder;" (.ref b)) (X2 : Fld Z h0 tw "com/example/ply3/ply3/TextWriter" "whole" "Ljava/lang/String;" .null) (F : Sbd Z h0 b vb kv cs) (hwb : tw < b) (hwv : tw < vb) (hne : b ≠ vb) (hc : cs.length + 2 ≤ 16) {ca : Nat} {kc : ClassId} {pp : Int32} (CAr : Arv Z h0 ca kc .char 2 [(.int (lo pp)), (.int (hi pp))] (.int 0)) (hca : ca < tw) :
    Ow.Con l Z EL1 n0 my49 prog_33_method_3_code 4 (Option.none : Option Jvm.ClassFile.FieldType) [] ({ frames := 9, cells := 1, slots := 32, locals := 140 } : Room) #[(.ref tw), (.ref ca), (.int 0), (.int 2)] [vb] h0 (fun v h S' => ∃ b' : Nat, ∃ t' : Nat, ∃ kr : ClassId, v = none ∧ Keep h0 h [tw, b, vb] ∧ (b' = b ∨ h0.size ≤ b') ∧ (t' = vb ∨ h0.size ≤ t') ∧ b' ≠ t' ∧ Fld Z h tw "com/example/ply3/ply3/TextWriter" "text" "Ljava/lang/StringBuilder;" (.ref b') ∧ Fld Z h tw "com/example/ply3/ply3/TextWriter" "whole" "Ljava/lang/String;" .null ∧ Sbd Z h b' t' kr (cs ++ [lo pp, hi pp]) ∧ S' = [t']) := by
 refine Ow.Con.enter (Ls := #[vR tw, vR ca, vI 0, vI 2]) (plainFor_of_name pn6) O0 (hEW hw) (hSA hw) ?_
 intro p e s m below meth c B
 have z0 := Ow.old_le O0
 have ltw : (tw : Nat) < h0.size := E.lt
 have lb : (b : Nat) < h0.size := F.lt
 have lvb : (vb : Nat) < h0.size := F.ltt
 have lca : (ca : Nat) < h0.size := CAr.lt
 refine Ow.aloadN (pc' := 1) B e49_0 ?_
 refine Ow.Go.old (fun o1 => ?_)
 refine Ow.callPrivate (pc' := 4) (W := 0) (k' := 0) (n' := 0) (argsL := []) (rest := []) (K := "com/example/ply3/ply3/TextWriter") B e49_1 (w85 hw) (w86 hw) (w87 hw) (w30 hw) (w31 hw) (w88 hw) E (gBldC hw G GS GI o1 E (by omega) X1 X2 F (by omega) (by omega) (by omega) (by first|omega|(simp;omega)|simp)) pd32 ?_
 intro vq2 h3 S4 q2 zh3
 obtain ⟨rfl, rfl, rfl⟩ := q2
 refine Ow.Go.nr (S' := [vb]) (st' := [(.ref b)]) ?_
 refine Ow.aloadN (pc' := 5) B e49_4 (Ow.iloadN (pc' := 6) B e49_5 (Ow.iloadN (pc' := 7) B e49_6 ?_))
 refine Ow.Go.old (fun o5 => ?_)
 refine Ow.callVirtual (pc' := 10) (W := 0) (k' := 1) (n' := 32) (argsL := [(.ref ca), (.int 0), (.int 2)]) (rest := []) (K := "java/lang/StringBuilder") B e49_7 (w107 hw) (w108 hw) (w110 hw) (w110 hw) (w109 hw) (w91 hw) (w111 hw) (F).1 (gAppA02 hw G GS GI o5 F (by omega) (by omega) (by omega) CAr ⟨lo0 pp, lo16 pp⟩ ⟨hi0 pp, hi16 pp⟩ (by omega) (by omega) (by first|omega|(simp;omega)|simp)) pd34 ?_
 intro vq6 h7 S8 q6 zh7
 obtain ⟨t9, k10, rfl, Kh7, e12, f11, rfl⟩ := q6
 have lt9 : (t9 : Nat) < h7.size := f11.ltt
 refine Ow.Go.norm (S' := [t9, vb]) (st' := [(.ref b)]) (fun _ q => q) rfl ?_
 refine Ow.pop (pc' := 11) B e49_10 ?_
 have f13 := X1.keep Kh7 (Ow.ninS (by omega) (Ow.ninS (by omega) Ow.nin0))
 have f14 := X2.keep Kh7 (Ow.ninS (by omega) (Ow.ninS (by omega) Ow.nin0))
 exact Ow.retV (S' := [t9]) B e49_11 (⟨b, t9, k10, rfl, ((Keep.refl _ [tw, b, vb]).trans Kh7 (allS (Or.inl (by simp)) (allS (Or.inl (by simp)) all0))), Or.inl rfl, (by omega), (by omega), f13, f14, f11, rfl⟩)
theorem gWaC01 (hw : Hw a0 Z) (G : Ow.Glo Z cz sf) (GS : GlS Z) {iof : Value} (GI : Sta Z Z.heap "jdk/internal/util/Preconditions" "IOOBE_FORMATTER" "Ljava/util/function/BiFunction;" iof ∧ iof.isRef = true) {h0 : Heap} (O0 : Old Z n0 h0) {tw : Nat} (E : Exa Z h0 tw "com/example/ply3/ply3/TextWriter") (hw0 : n0 ≤ tw) {b vb : Nat} {kv : ClassId} {cs : List Int32} (X1 : Fld Z h0 tw "com/example/ply3/ply3/TextWriter" "text" "Ljava/lang/StringBuilder;" (.ref b)) (X2 : Fld Z h0 tw "com/example/ply3/ply3/TextWriter" "whole" "Ljava/lang/String;" .null) (F : Sbd Z h0 b vb kv cs) (hwb : tw < b) (hwv : tw < vb) (hne : b ≠ vb) (hc : cs.length + 2 ≤ 16) {ca : Nat} {kc : ClassId} {pp : Int32} (CAr : Arv Z h0 ca kc .char 2 [(.int (lo pp)), (.int (hi pp))] (.int 0)) (hca : ca < tw) :
    Ow.Con l Z EL1 n0 my49 prog_33_method_3_code 4 (Option.none : Option Jvm.ClassFile.FieldType) [] ({ frames := 9, cells := 1, slots := 32, locals := 140 } : Room) #[(.ref tw), (.ref ca), (.int 0), (.int 1)] [vb] h0 (fun v h S' => ∃ b' : Nat, ∃ t' : Nat, ∃ kr : ClassId, v = none ∧ Keep h0 h [tw, b, vb] ∧ (b' = b ∨ h0.size ≤ b') ∧ (t' = vb ∨ h0.size ≤ t') ∧ b' ≠ t' ∧ Fld Z h tw "com/example/ply3/ply3/TextWriter" "text" "Ljava/lang/StringBuilder;" (.ref b') ∧ Fld Z h tw "com/example/ply3/ply3/TextWriter" "whole" "Ljava/lang/String;" .null ∧ Sbd Z h b' t' kr (cs ++ [lo pp]) ∧ S' = [t']) := by
 refine Ow.Con.enter (Ls := #[vR tw, vR ca, vI 0, vI 1]) (plainFor_of_name pn6) O0 (hEW hw) (hSA hw) ?_
 intro p e s m below meth c B
 have z0 := Ow.old_le O0
 have ltw : (tw : Nat) < h0.size := E.lt
 have lb : (b : Nat) < h0.size := F.lt
 have lvb : (vb : Nat) < h0.size := F.ltt
 have lca : (ca : Nat) < h0.size := CAr.lt
 refine Ow.aloadN (pc' := 1) B e49_0 ?_
 refine Ow.Go.old (fun o1 => ?_)
 refine Ow.callPrivate (pc' := 4) (W := 0) (k' := 0) (n' := 0) (argsL := []) (rest := []) (K := "com/example/ply3/ply3/TextWriter") B e49_1 (w85 hw) (w86 hw) (w87 hw) (w30 hw) (w31 hw) (w88 hw) E (gBldC hw G GS GI o1 E (by omega) X1 X2 F (by omega) (by omega) (by omega) (by first|omega|(simp;omega)|simp)) pd32 ?_
 intro vq2 h3 S4 q2 zh3
 obtain ⟨rfl, rfl, rfl⟩ := q2
 refine Ow.Go.nr (S' := [vb]) (st' := [(.ref b)]) ?_
 refine Ow.aloadN (pc' := 5) B e49_4 (Ow.iloadN (pc' := 6) B e49_5 (Ow.iloadN (pc' := 7) B e49_6 ?_))
 refine Ow.Go.old (fun o5 => ?_)
 refine Ow.callVirtual (pc' := 10) (W := 0) (k' := 1) (n' := 32) (argsL := [(.ref ca), (.int 0), (.int 1)]) (rest := []) (K := "java/lang/StringBuilder") B e49_7 (w107 hw) (w108 hw) (w110 hw) (w110 hw) (w109 hw) (w91 hw) (w111 hw) (F).1 (gAppA01 hw G GS GI o5 F (by omega) (by omega) (by omega) CAr ⟨lo0 pp, lo16 pp⟩ ⟨hi0 pp, hi16 pp⟩ (by omega) (by omega) (by first|omega|(simp;omega)|simp)) pd34 ?_
 intro vq6 h7 S8 q6 zh7
 obtain ⟨t9, k10, rfl, Kh7, e12, f11, rfl⟩ := q6
 have lt9 : (t9 : Nat) < h7.size := f11.ltt
 refine Ow.Go.norm (S' := [t9, vb]) (st' := [(.ref b)]) (fun _ q => q) rfl ?_
 refine Ow.pop (pc' := 11) B e49_10 ?_
 have f13 := X1.keep Kh7 (Ow.ninS (by omega) (Ow.ninS (by omega) Ow.nin0))
 have f14 := X2.keep Kh7 (Ow.ninS (by omega) (Ow.ninS (by omega) Ow.nin0))
 exact Ow.retV (S' := [t9]) B e49_11 (⟨b, t9, k10, rfl, ((Keep.refl _ [tw, b, vb]).trans Kh7 (allS (Or.inl (by simp)) (allS (Or.inl (by simp)) all0))), Or.inl rfl, (by omega), (by omega), f13, f14, f11, rfl⟩)
theorem gWsC (hw : Hw a0 Z) (G : Ow.Glo Z cz sf) (GS : GlS Z) {iof : Value} (GI : Sta Z Z.heap "jdk/internal/util/Preconditions" "IOOBE_FORMATTER" "Ljava/util/function/BiFunction;" iof ∧ iof.isRef = true) {h0 : Heap} (O0 : Old Z n0 h0) {tw : Nat} (E : Exa Z h0 tw "com/example/ply3/ply3/TextWriter") (hw0 : n0 ≤ tw) {b vb : Nat} {kv : ClassId} {cs : List Int32} (X1 : Fld Z h0 tw "com/example/ply3/ply3/TextWriter" "text" "Ljava/lang/StringBuilder;" (.ref b)) (X2 : Fld Z h0 tw "com/example/ply3/ply3/TextWriter" "whole" "Ljava/lang/String;" .null) (F : Sbd Z h0 b vb kv cs) (hwb : tw < b) (hwv : tw < vb) (hne : b ≠ vb) (hc : cs.length + 2 ≤ 16) {sn t : Nat} {kt : ClassId} {ss : List Int32} (F2 : Ow.Chs Z h0 sn t kt ss) (hsn : sn < tw) (hst : t < tw) (hs2 : ss.length ≤ 2) :
    Ow.Con l Z EL1 n0 my51 prog_33_method_4_code 2 (Option.none : Option Jvm.ClassFile.FieldType) [] ({ frames := 10, cells := 3, slots := 60, locals := 143 } : Room) #[(.ref tw), (.ref sn)] [vb] h0 (fun v h S' => ∃ b' : Nat, ∃ t' : Nat, ∃ kr : ClassId, v = none ∧ Keep h0 h [tw, b, vb] ∧ (b' = b ∨ h0.size ≤ b') ∧ (t' = vb ∨ h0.size ≤ t') ∧ b' ≠ t' ∧ Fld Z h tw "com/example/ply3/ply3/TextWriter" "text" "Ljava/lang/StringBuilder;" (.ref b') ∧ Fld Z h tw "com/example/ply3/ply3/TextWriter" "whole" "Ljava/lang/String;" .null ∧ Sbd Z h b' t' kr (cs ++ ss) ∧ S' = [t']) := by
 refine Ow.Con.enter (Ls := #[vR tw, vR sn]) (plainFor_of_name pn6) O0 (hEW hw) (hSA hw) ?_
 intro p e s m below meth c B
 have z0 := Ow.old_le O0
 have ltw : (tw : Nat) < h0.size := E.lt
 have lb : (b : Nat) < h0.size := F.lt
 have lvb : (vb : Nat) < h0.size := F.ltt
 have lsn : (sn : Nat) < h0.size := F2.lt
 have lts : (t : Nat) < h0.size := F2.ltt
 refine Ow.aloadN (pc' := 1) B e50_0 ?_
 refine Ow.ldcText (pc' := 3) (k' := 2) (n' := 28) (nn := 24) (vs := [(.int 115), (.int 116), (.int 114), (.int 105), (.int 110), (.int 103)]) (z := 6) B e50_1 (w232 hw) (by decide) ⟨by decide, by decide⟩ (by decide) (by decide) ?_
 intro h2 a1 t3 kt3 Kh2 Ea1 Ca1 Va1 At3 Na1
 have zh2 := Kh2.1
 have la1 : (a1 : Nat) < h2.size := Ea1.lt
 have lt3 : (t3 : Nat) < h2.size := At3.lt
 have n4 : (vb : Nat) ≠ a1 ∧ (vb : Nat) ≠ t3 := Na1 vb (by simp)
 refine Ow.Go.old (fun o5 => ?_)
 refine Ow.callStatic (pc' := 6) (W := 0) (k' := 2) (n' := 28) (argsL := [(.ref sn), (.ref a1)]) (rest := []) B e50_3 (w233 hw) (w234 hw) (w235 hw) (w236 hw) (con_requireNonNull_24 hw G GS GI (pa0 := sn) (pa1 := a1) o5) pd35 ?_
 intro vq6 h7 S8 q6 zh7
 obtain ⟨rfl, rfl, rfl⟩ := q6
 refine Ow.Go.nr (S' := [vb]) (st' := [(.ref sn)]) ?_
 refine Ow.pop (pc' := 7) B e50_6 ?_
 refine Ow.aloadN (pc' := 8) B e50_7 ?_
 have f9 := X2.keep Kh2 Ow.nin0
 refine Ow.getfield (pc' := 11) B e50_8 (w53 hw) Via.refl f9 ?_
 refine Ow.ifnonnullF (pc' := 14) B e50_11 ?_
 refine Ow.aloadN (pc' := 15) B e50_14 ?_
 have f10 := X1.keep Kh2 Ow.nin0
 refine Ow.getfield (pc' := 18) B e50_15 (w51 hw) Via.refl f10 ?_
 refine Ow.ifnonnullT (pc' := 29) B e50_18 ?_
 refine Ow.aloadN (pc' := 30) B e50_29 ?_
 refine Ow.Go.old (fun o11 => ?_)
 have f12 := E.keep Kh2
 have f13 := F.keep Kh2 Ow.nin0 Ow.nin0
 refine Ow.callPrivate (pc' := 33) (W := 0) (k' := 2) (n' := 28) (argsL := []) (rest := []) (K := "com/example/ply3/ply3/TextWriter") B e50_30 (w85 hw) (w86 hw) (w87 hw) (w30 hw) (w31 hw) (w88 hw) f12 (gBldC hw G GS GI o11 f12 (by omega) f10 f9 f13 (by omega) (by omega) (by omega) (by first|omega|(simp;omega)|simp)) pd32 ?_
 intro vq14 h15 S16 q14 zh15
 obtain ⟨rfl, rfl, rfl⟩ := q14
 refine Ow.Go.nr (S' := [vb]) (st' := [(.ref b)]) ?_
 refine Ow.aloadN (pc' := 34) B e50_33 ?_
 have f17 := F2.keep Kh2 Ow.nin0 Ow.nin0
 refine Ow.Go.old (fun o18 => ?_)
 refine Ow.callVirtual (pc' := 37) (W := 0) (k' := 3) (n' := 60) (argsL := [(.ref sn)]) (rest := []) (K := "java/lang/StringBuilder") B e50_34 (w237 hw) (w238 hw) (w240 hw) (w240 hw) (w239 hw) (w91 hw) (w241 hw) (f13).1 (gAppS hw G GS GI o18 f13 (by omega) (by omega) (by omega) f17 (by omega) (by omega) (by omega) (by omega) (by first|omega|(simp;omega)|simp)) pd31 ?_
 intro vq19 h20 S21 q19 zh20
 obtain ⟨t22, k23, rfl, Kh20, e25, f24, rfl⟩ := q19
 have lt22 : (t22 : Nat) < h20.size := f24.ltt
 refine Ow.Go.norm (S' := [t22, vb]) (st' := [(.ref b)]) (fun _ q => q) rfl ?_
 refine Ow.pop (pc' := 38) B e50_37 ?_
 have f26 := f10.keep Kh20 (Ow.ninS (by omega) (Ow.ninS (by omega) Ow.nin0))
 have f27 := f9.keep Kh20 (Ow.ninS (by omega) (Ow.ninS (by omega) Ow.nin0))
 exact Ow.retV (S' := [t22]) B e50_38 (⟨b, t22, k23, rfl, (((Keep.refl _ [tw, b, vb]).trans Kh2 (fun _ q => nomatch q)).trans Kh20 (allS (Or.inl (by simp)) (allS (Or.inl (by simp)) all0))), Or.inl rfl, (by omega), (by omega), f26, f27, f24, rfl⟩)
theorem gStA (hw : Hw a0 Z) (G : Ow.Glo Z cz sf) (GS : GlS Z) {iof : Value} (GI : Sta Z Z.heap "jdk/internal/util/Preconditions" "IOOBE_FORMATTER" "Ljava/util/function/BiFunction;" iof ∧ iof.isRef = true) {h0 : Heap} (O0 : Old Z n0 h0) {tw : Nat} (E : Exa Z h0 tw "com/example/ply3/ply3/TextWriter") (hw0 : n0 ≤ tw) (X1 : Fld Z h0 tw "com/example/ply3/ply3/TextWriter" "text" "Ljava/lang/StringBuilder;" .null) (X2 : Fld Z h0 tw "com/example/ply3/ply3/TextWriter" "whole" "Ljava/lang/String;" .null) {ex : Nat} {kx : ClassId} (XA : Arv Z h0 ex kx .char 6 (Ow.CA ([] : List Int32)) (.int 0)) (hex : ex < tw) (hex0 : n0 ≤ ex) (h4 : (([] : List Int32)).length ≤ 4) {sn t ca : Nat} {kt kc : ClassId} {ss : List Int32} {e' pp : Int32} (F2 : Ow.Chs Z h0 sn t kt ss) (hS : StrP pp e' ss) (hsn : sn < tw) (hst : t < tw) (CAr : Arv Z h0 ca kc .char 2 [(.int (lo pp)), (.int (hi pp))] (.int 0)) (hca : ca < tw) (hd1 : ex ≠ ca) (hd2 : sn ≠ ex) (hd3 : t ≠ ex) {kd : Int32} (hk : kd = 1 ∨ kd = 3) :
    Ow.Con l Z EL1 n0 my52 method_5_code 10 (Option.some Jvm.ClassFile.FieldType.int) [] ({ frames := 10, cells := 3, slots := 52, locals := 155 } : Room) #[(.ref tw), (.ref ex), (.int (Int32.ofNat (([] : List Int32)).length)), (.int kd), (.int e'), (.int pp), (.ref sn), (.ref ca)] [] h0 (fun v h S' => ∃ b' : Nat, ∃ t' : Nat, ∃ kr : ClassId, ∃ ds : List Int32, ds.length ≤ 2 ∧ Arv Z h ex kx .char 6 (Ow.CA (([] : List Int32) ++ ds)) (.int 0) ∧ v = some (.int (Int32.ofNat (([] : List Int32) ++ ds).length)) ∧ Keep h0 h [tw, ex] ∧ h0.size ≤ b' ∧ h0.size ≤ t' ∧ b' ≠ t' ∧ Fld Z h tw "com/example/ply3/ply3/TextWriter" "text" "Ljava/lang/StringBuilder;" (.ref b') ∧ Fld Z h tw "com/example/ply3/ply3/TextWriter" "whole" "Ljava/lang/String;" .null ∧ Sbd Z h b' t' kr (([] : List Int32) ++ ds) ∧ S' = [t']) := by
 refine Ow.Con.enter (Ls := #[vR tw, vR ex, vI (Int32.ofNat (([] : List Int32)).length), vI kd, vI e', vI pp, vR sn, vR ca, .unset, .unset]) (plainFor_of_name pn8) O0 (hEW hw) (hSA hw) ?_
 intro p e s m below meth c B
 have z0 := Ow.old_le O0
 have ltw : (tw : Nat) < h0.size := E.lt
 have lsn : (sn : Nat) < h0.size := F2.lt
 have lts : (t : Nat) < h0.size := F2.ltt
 have lca : (ca : Nat) < h0.size := CAr.lt
 have lex : (ex : Nat) < h0.size := XA.lt
 have hcs : (([] : List Int32)).length ≤ 4 := h4
 refine Ow.iloadN (pc' := 1) B e52_0 (Ow.iconst (pc' := 2) (x := 1) B e52_1 ?_)
 by_cases k1 : kd = (1 : Int32)
 ·refine Ow.icmpF (pc' := 5) B e52_2 (teq k1).2 ?_
  refine Ow.aloadN (pc' := 6) B e52_5 (Ow.iload (pc' := 8) B e52_6 ?_)
  refine Ow.Go.old (fun o1 => ?_)
  refine Ow.callVirtual (pc' := 11) (W := 0) (k' := 3) (n' := 52) (argsL := [(.int pp)]) (rest := []) (K := "com/example/ply3/ply3/TextWriter") B e52_8 (w310 hw) (w311 hw) (w313 hw) (w313 hw) (w312 hw) (w31 hw) (w314 hw) E (gWiA hw G GS GI (pp := pp) o1 E (by omega) X1 X2) pd20 ?_
  intro vq2 h3 S4 q2 zh3
  obtain ⟨b5, t6, k7, rfl, Kh3, f8, f9, f10, f11, f12, f13, rfl⟩ := q2
  have lb5 : (b5 : Nat) < h3.size := f13.lt
  have lt6 : (t6 : Nat) < h3.size := f13.ltt
  refine Ow.Go.norm (S' := [t6]) (st' := []) (fun _ q => q) rfl ?_
  refine Ow.aloadN (pc' := 12) B e52_11 (Ow.iloadN (pc' := 13) B e52_12 (Ow.iload (pc' := 15) B e52_13 ?_))
  refine Ow.i2c (pc' := 16) (z := (lo pp)) B e52_15 ?_
  have f14 := XA.keep Kh3 (Ow.ninS (by omega) Ow.nin0)
  refine Ow.castore (pc' := 17) (i := (([] : List Int32)).length) B e52_16 (f14.pad (Ow.pad1 _ _)) ⟨by rw [show ((Int32.ofNat (([] : List Int32)).length)) = Int32.ofNat (([] : List Int32)).length from by simp]; exact Ow.nn (by first|omega|(simp;omega)|simp), by rw [show ((Int32.ofNat (([] : List Int32)).length)) = Int32.ofNat (([] : List Int32)).length from by simp]; exact Ow.nlT (n := 6) (by first|omega|(simp;omega)|simp)⟩ ?_ (hlt := by simp) (hi := by rw [show ((Int32.ofNat (([] : List Int32)).length)) = Int32.ofNat (([] : List Int32)).length from by simp]; exact Ow.nc (by first|omega|(simp;omega)|simp))
  intro h15 Kh15 V16
  have zh15 := Kh15.1
  rw [(loN pp), Ow.CAs] at V16
  refine Ow.iloadN (pc' := 18) B e52_17 (Ow.iconst (pc' := 19) (x := 1) B e52_18 ?_)
  refine Ow.iadd (pc' := 20) (z := (Int32.ofNat ((([] : List Int32)).length + 1))) (hz := (Ow.nadd (([] : List Int32)).length 1)) B e52_19 ?_
  have f17 := f11.keep Kh15 (Ow.ninS (by omega) Ow.nin0)
  have f18 := f12.keep Kh15 (Ow.ninS (by omega) Ow.nin0)
  have f19 := f13.keep Kh15 (Ow.ninS (by omega) Ow.nin0) (Ow.ninS (by omega) Ow.nin0)
  exact Ow.retI (S' := [t6]) (t := .int) B e52_20 (⟨b5, t6, k7, [lo pp], (by simp), caCast V16 (by simp), (by simp), (((Keep.refl _ [tw, ex]).trans Kh3 (allS (Or.inl (by simp)) all0)).trans Kh15 (allS (Or.inl (by simp)) all0)), (by omega), (by omega), (by omega), f17, f18, f19.cast (by simp), rfl⟩)
 ·refine Ow.icmpT (pc' := 21) B e52_2 (feq k1).2 ?_
  refine Ow.iloadN (pc' := 22) B e52_21 (Ow.iconst (pc' := 23) (x := 2) B e52_22 ?_)
  refine Ow.icmpT (pc' := 73) B e52_23 (feq (fun q => absurd ((hk.resolve_left k1).symm.trans q) (by decide))).2 ?_
  refine Ow.iloadN (pc' := 74) B e52_73 (Ow.iconst (pc' := 75) (x := 3) B e52_74 ?_)
  refine Ow.icmpF (pc' := 78) B e52_75 (teq (hk.resolve_left k1)).2 ?_
  refine Ow.iload (pc' := 80) B e52_78 (Ow.iconst (pc' := 81) (x := 1) B e52_80 ?_)
  by_cases e1 : e' = (1 : Int32)
  ·refine Ow.icmpF (pc' := 84) B e52_81 (teq e1).2 ?_
   refine Ow.iconst (pc' := 85) (x := 1) B e52_84 ?_
   refine Ow.goto (pc' := 89) B e52_85 ?_
   refine Ow.istore (pc' := 91) (Ls' := #[vR tw, vR ex, vI (Int32.ofNat (([] : List Int32)).length), vI kd, vI e', vI pp, vR sn, vR ca, vI 1, .unset]) B e52_89 ?_
   refine Ow.iload (pc' := 93) B e52_91 ?_
   refine Ow.ifT (pc' := 100) B e52_93 (feq (fun q => absurd (q.symm.trans e1) (by decide))).2 ?_
   refine Ow.iload (pc' := 102) B e52_100 (Ow.iconst (pc' := 103) (x := 2) B e52_102 ?_)
   refine Ow.icmpT (pc' := 110) B e52_103 (feq (fun q => absurd (q.symm.trans e1) (by decide))).2 ?_
   refine Ow.iconst (pc' := 111) (x := 1) B e52_110 ?_
   refine Ow.istore (pc' := 113) (Ls' := #[vR tw, vR ex, vI (Int32.ofNat (([] : List Int32)).length), vI kd, vI e', vI pp, vR sn, vR ca, vI 1, vI 1]) B e52_111 ?_
   refine Ow.aloadN (pc' := 114) B e52_113 (Ow.aload (pc' := 116) B e52_114 (Ow.iload (pc' := 118) B e52_116 (Ow.iload (pc' := 120) B e52_118 ?_)))
   refine Ow.Go.old (fun o20 => ?_)
   refine Ow.callVirtual (pc' := 123) (W := 0) (k' := 3) (n' := 52) (argsL := [(.ref ca), (.int 1), (.int 1)]) (rest := []) (K := "com/example/ply3/ply3/TextWriter") B e52_120 (w80 hw) (w81 hw) (w83 hw) (w83 hw) (w82 hw) (w31 hw) (w84 hw) E (gWaA12 hw G GS GI (pp := pp) o20 E (by omega) X1 X2 CAr (by omega)) pd24 ?_
   intro vq21 h22 S23 q21 zh22
   obtain ⟨b24, t25, k26, rfl, Kh22, f27, f28, f29, f30, f31, f32, rfl⟩ := q21
   have lb24 : (b24 : Nat) < h22.size := f32.lt
   have lt25 : (t25 : Nat) < h22.size := f32.ltt
   refine Ow.Go.norm (S' := [t25]) (st' := []) (fun _ q => q) rfl ?_
   refine Ow.iload (pc' := 125) B e52_123 (Ow.iconst (pc' := 126) (x := 1) B e52_125 ?_)
   refine Ow.icmpF (pc' := 129) B e52_126 (by decide) ?_
   refine Ow.aloadN (pc' := 130) B e52_129 (Ow.iloadN (pc' := 131) B e52_130 (Ow.aload (pc' := 133) B e52_131 (Ow.iload (pc' := 135) B e52_133 ?_)))
   have f33 := CAr.keep Kh22 (Ow.ninS (by omega) Ow.nin0)
   refine Ow.caload (pc' := 136) B e52_135 f33 ⟨by decide, by decide⟩ rfl ?_
   have f34 := XA.keep Kh22 (Ow.ninS (by omega) Ow.nin0)
   refine Ow.castore (pc' := 137) (i := (([] : List Int32)).length) B e52_136 (f34.pad (Ow.pad1 _ _)) ⟨by rw [show ((Int32.ofNat (([] : List Int32)).length)) = Int32.ofNat (([] : List Int32)).length from by simp]; exact Ow.nn (by first|omega|(simp;omega)|simp), by rw [show ((Int32.ofNat (([] : List Int32)).length)) = Int32.ofNat (([] : List Int32)).length from by simp]; exact Ow.nlT (n := 6) (by first|omega|(simp;omega)|simp)⟩ ?_ (hlt := by simp) (hi := by rw [show ((Int32.ofNat (([] : List Int32)).length)) = Int32.ofNat (([] : List Int32)).length from by simp]; exact Ow.nc (by first|omega|(simp;omega)|simp))
   intro h35 Kh35 V36
   have zh35 := Kh35.1
   rw [(hiN pp), Ow.CAs] at V36
   refine Ow.iload (pc' := 139) B e52_137 (Ow.iconst (pc' := 140) (x := 2) B e52_139 ?_)
   refine Ow.icmpT (pc' := 155) B e52_140 (by decide) ?_
   refine Ow.iloadN (pc' := 156) B e52_155 (Ow.iload (pc' := 158) B e52_156 ?_)
   refine Ow.iadd (pc' := 159) (z := (Int32.ofNat ((([] : List Int32)).length + 1))) (hz := (Ow.nadd (([] : List Int32)).length 1)) B e52_158 ?_
   have f37 := f30.keep Kh35 (Ow.ninS (by omega) Ow.nin0)
   have f38 := f31.keep Kh35 (Ow.ninS (by omega) Ow.nin0)
   have f39 := f32.keep Kh35 (Ow.ninS (by omega) Ow.nin0) (Ow.ninS (by omega) Ow.nin0)
   exact Ow.retI (S' := [t25]) (t := .int) B e52_159 (⟨b24, t25, k26, [hi pp], (by simp), caCast V36 (by simp), (by simp), (((Keep.refl _ [tw, ex]).trans Kh22 (allS (Or.inl (by simp)) all0)).trans Kh35 (allS (Or.inl (by simp)) all0)), (by omega), (by omega), (by omega), f37, f38, f39.cast (by simp), rfl⟩)
  ·refine Ow.icmpT (pc' := 88) B e52_81 (feq e1).2 ?_
   refine Ow.iconst (pc' := 89) (x := 0) B e52_88 ?_
   refine Ow.istore (pc' := 91) (Ls' := #[vR tw, vR ex, vI (Int32.ofNat (([] : List Int32)).length), vI kd, vI e', vI pp, vR sn, vR ca, vI 0, .unset]) B e52_89 ?_
   refine Ow.iload (pc' := 93) B e52_91 ?_
   by_cases e0 : e' = (0 : Int32)
   ·refine Ow.ifF (pc' := 96) B e52_93 (teq e0).2 ?_
    refine Ow.iconst (pc' := 97) (x := 0) B e52_96 ?_
    refine Ow.goto (pc' := 111) B e52_97 ?_
    refine Ow.istore (pc' := 113) (Ls' := #[vR tw, vR ex, vI (Int32.ofNat (([] : List Int32)).length), vI kd, vI e', vI pp, vR sn, vR ca, vI 0, vI 0]) B e52_111 ?_
    refine Ow.aloadN (pc' := 114) B e52_113 (Ow.aload (pc' := 116) B e52_114 (Ow.iload (pc' := 118) B e52_116 (Ow.iload (pc' := 120) B e52_118 ?_)))
    refine Ow.Go.old (fun o40 => ?_)
    refine Ow.callVirtual (pc' := 123) (W := 0) (k' := 2) (n' := 20) (argsL := [(.ref ca), (.int 0), (.int 0)]) (rest := []) (K := "com/example/ply3/ply3/TextWriter") B e52_120 (w80 hw) (w81 hw) (w83 hw) (w83 hw) (w82 hw) (w31 hw) (w84 hw) E (gWaA00 hw G GS GI (pp := pp) o40 E (by omega) X1 X2 CAr (by omega)) pd24 ?_
    intro vq41 h42 S43 q41 zh42
    obtain ⟨b44, t45, k46, rfl, Kh42, f47, f48, f49, f50, f51, f52, rfl⟩ := q41
    have lb44 : (b44 : Nat) < h42.size := f52.lt
    have lt45 : (t45 : Nat) < h42.size := f52.ltt
    refine Ow.Go.norm (S' := [t45]) (st' := []) (fun _ q => q) rfl ?_
    refine Ow.iload (pc' := 125) B e52_123 (Ow.iconst (pc' := 126) (x := 1) B e52_125 ?_)
    refine Ow.icmpT (pc' := 137) B e52_126 (by decide) ?_
    refine Ow.iload (pc' := 139) B e52_137 (Ow.iconst (pc' := 140) (x := 2) B e52_139 ?_)
    refine Ow.icmpT (pc' := 155) B e52_140 (by decide) ?_
    refine Ow.iloadN (pc' := 156) B e52_155 (Ow.iload (pc' := 158) B e52_156 ?_)
    refine Ow.iadd (pc' := 159) (z := (Int32.ofNat ((([] : List Int32)).length + 0))) (hz := (Ow.nadd (([] : List Int32)).length 0)) B e52_158 ?_
    have f53 := XA.keep Kh42 (Ow.ninS (by omega) Ow.nin0)
    exact Ow.retI (S' := [t45]) (t := .int) B e52_159 (⟨b44, t45, k46, [], (by simp), caCast f53 (by simp), (by simp), ((Keep.refl _ [tw, ex]).trans Kh42 (allS (Or.inl (by simp)) all0)), (by omega), (by omega), (by omega), f50, f51, f52.cast (by simp), rfl⟩)
   ·refine Ow.ifT (pc' := 100) B e52_93 (feq e0).2 ?_
    refine Ow.iload (pc' := 102) B e52_100 (Ow.iconst (pc' := 103) (x := 2) B e52_102 ?_)
    by_cases e2 : e' = (2 : Int32)
    ·refine Ow.icmpF (pc' := 106) B e52_103 (teq e2).2 ?_
     refine Ow.iconst (pc' := 107) (x := 2) B e52_106 ?_
     refine Ow.goto (pc' := 111) B e52_107 ?_
     refine Ow.istore (pc' := 113) (Ls' := #[vR tw, vR ex, vI (Int32.ofNat (([] : List Int32)).length), vI kd, vI e', vI pp, vR sn, vR ca, vI 0, vI 2]) B e52_111 ?_
     refine Ow.aloadN (pc' := 114) B e52_113 (Ow.aload (pc' := 116) B e52_114 (Ow.iload (pc' := 118) B e52_116 (Ow.iload (pc' := 120) B e52_118 ?_)))
     refine Ow.Go.old (fun o54 => ?_)
     refine Ow.callVirtual (pc' := 123) (W := 0) (k' := 3) (n' := 52) (argsL := [(.ref ca), (.int 0), (.int 2)]) (rest := []) (K := "com/example/ply3/ply3/TextWriter") B e52_120 (w80 hw) (w81 hw) (w83 hw) (w83 hw) (w82 hw) (w31 hw) (w84 hw) E (gWaA02 hw G GS GI (pp := pp) o54 E (by omega) X1 X2 CAr (by omega)) pd24 ?_
     intro vq55 h56 S57 q55 zh56
     obtain ⟨b58, t59, k60, rfl, Kh56, f61, f62, f63, f64, f65, f66, rfl⟩ := q55
     have lb58 : (b58 : Nat) < h56.size := f66.lt
     have lt59 : (t59 : Nat) < h56.size := f66.ltt
     refine Ow.Go.norm (S' := [t59]) (st' := []) (fun _ q => q) rfl ?_
     refine Ow.iload (pc' := 125) B e52_123 (Ow.iconst (pc' := 126) (x := 1) B e52_125 ?_)
     refine Ow.icmpF (pc' := 129) B e52_126 (by decide) ?_
     refine Ow.aloadN (pc' := 130) B e52_129 (Ow.iloadN (pc' := 131) B e52_130 (Ow.aload (pc' := 133) B e52_131 (Ow.iload (pc' := 135) B e52_133 ?_)))
     have f67 := CAr.keep Kh56 (Ow.ninS (by omega) Ow.nin0)
     refine Ow.caload (pc' := 136) B e52_135 f67 ⟨by decide, by decide⟩ rfl ?_
     have f68 := XA.keep Kh56 (Ow.ninS (by omega) Ow.nin0)
     refine Ow.castore (pc' := 137) (i := (([] : List Int32)).length) B e52_136 (f68.pad (Ow.pad1 _ _)) ⟨by rw [show ((Int32.ofNat (([] : List Int32)).length)) = Int32.ofNat (([] : List Int32)).length from by simp]; exact Ow.nn (by first|omega|(simp;omega)|simp), by rw [show ((Int32.ofNat (([] : List Int32)).length)) = Int32.ofNat (([] : List Int32)).length from by simp]; exact Ow.nlT (n := 6) (by first|omega|(simp;omega)|simp)⟩ ?_ (hlt := by simp) (hi := by rw [show ((Int32.ofNat (([] : List Int32)).length)) = Int32.ofNat (([] : List Int32)).length from by simp]; exact Ow.nc (by first|omega|(simp;omega)|simp))
     intro h69 Kh69 V70
     have zh69 := Kh69.1
     rw [(loN pp), Ow.CAs] at V70
     refine Ow.iload (pc' := 139) B e52_137 (Ow.iconst (pc' := 140) (x := 2) B e52_139 ?_)
     refine Ow.icmpF (pc' := 143) B e52_140 (by decide) ?_
     refine Ow.aloadN (pc' := 144) B e52_143 (Ow.iloadN (pc' := 145) B e52_144 (Ow.iconst (pc' := 146) (x := 1) B e52_145 ?_))
     refine Ow.iadd (pc' := 147) (z := (Int32.ofNat ((([] : List Int32)).length + 1))) (hz := (Ow.nadd (([] : List Int32)).length 1)) B e52_146 ?_
     refine Ow.aload (pc' := 149) B e52_147 (Ow.iload (pc' := 151) B e52_149 (Ow.iconst (pc' := 152) (x := 1) B e52_151 ?_))
     refine Ow.iadd (pc' := 153) (z := 1) B e52_152 ?_
     have f71 := f67.keep Kh69 (Ow.ninS (by omega) Ow.nin0)
     refine Ow.caload (pc' := 154) B e52_153 f71 ⟨by decide, by decide⟩ rfl ?_
     refine Ow.castore (pc' := 155) (i := (([] : List Int32) ++ [(lo pp)]).length) B e52_154 (V70.pad (Ow.pad1 _ _)) ⟨by rw [show ((Int32.ofNat ((([] : List Int32)).length + 1))) = Int32.ofNat (([] : List Int32) ++ [(lo pp)]).length from by simp]; exact Ow.nn (by first|omega|(simp;omega)|simp), by rw [show ((Int32.ofNat ((([] : List Int32)).length + 1))) = Int32.ofNat (([] : List Int32) ++ [(lo pp)]).length from by simp]; exact Ow.nlT (n := 6) (by first|omega|(simp;omega)|simp)⟩ ?_ (hlt := by simp) (hi := by rw [show ((Int32.ofNat ((([] : List Int32)).length + 1))) = Int32.ofNat (([] : List Int32) ++ [(lo pp)]).length from by simp]; exact Ow.nc (by first|omega|(simp;omega)|simp))
     intro h72 Kh72 V73
     have zh72 := Kh72.1
     rw [(hiN pp), Ow.CAs] at V73
     refine Ow.iloadN (pc' := 156) B e52_155 (Ow.iload (pc' := 158) B e52_156 ?_)
     refine Ow.iadd (pc' := 159) (z := (Int32.ofNat ((([] : List Int32)).length + 2))) (hz := (Ow.nadd (([] : List Int32)).length 2)) B e52_158 ?_
     have f74 := f64.keep Kh69 (Ow.ninS (by omega) Ow.nin0)
     have f75 := f74.keep Kh72 (Ow.ninS (by omega) Ow.nin0)
     have f76 := f65.keep Kh69 (Ow.ninS (by omega) Ow.nin0)
     have f77 := f76.keep Kh72 (Ow.ninS (by omega) Ow.nin0)
     have f78 := f66.keep Kh69 (Ow.ninS (by omega) Ow.nin0) (Ow.ninS (by omega) Ow.nin0)
     have f79 := f78.keep Kh72 (Ow.ninS (by omega) Ow.nin0) (Ow.ninS (by omega) Ow.nin0)
     exact Ow.retI (S' := [t59]) (t := .int) B e52_159 (⟨b58, t59, k60, [lo pp, hi pp], (by simp), caCast V73 (by simp), (by simp), ((((Keep.refl _ [tw, ex]).trans Kh56 (allS (Or.inl (by simp)) all0)).trans Kh69 (allS (Or.inl (by simp)) all0)).trans Kh72 (allS (Or.inl (by simp)) all0)), (by omega), (by omega), (by omega), f75, f77, f79.cast (by simp), rfl⟩)
    ·refine Ow.icmpT (pc' := 110) B e52_103 (feq e2).2 ?_
     refine Ow.iconst (pc' := 111) (x := 1) B e52_110 ?_
     refine Ow.istore (pc' := 113) (Ls' := #[vR tw, vR ex, vI (Int32.ofNat (([] : List Int32)).length), vI kd, vI e', vI pp, vR sn, vR ca, vI 0, vI 1]) B e52_111 ?_
     refine Ow.aloadN (pc' := 114) B e52_113 (Ow.aload (pc' := 116) B e52_114 (Ow.iload (pc' := 118) B e52_116 (Ow.iload (pc' := 120) B e52_118 ?_)))
     refine Ow.Go.old (fun o80 => ?_)
     refine Ow.callVirtual (pc' := 123) (W := 0) (k' := 3) (n' := 52) (argsL := [(.ref ca), (.int 0), (.int 1)]) (rest := []) (K := "com/example/ply3/ply3/TextWriter") B e52_120 (w80 hw) (w81 hw) (w83 hw) (w83 hw) (w82 hw) (w31 hw) (w84 hw) E (gWaA01 hw G GS GI (pp := pp) o80 E (by omega) X1 X2 CAr (by omega)) pd24 ?_
     intro vq81 h82 S83 q81 zh82
     obtain ⟨b84, t85, k86, rfl, Kh82, f87, f88, f89, f90, f91, f92, rfl⟩ := q81
     have lb84 : (b84 : Nat) < h82.size := f92.lt
     have lt85 : (t85 : Nat) < h82.size := f92.ltt
     refine Ow.Go.norm (S' := [t85]) (st' := []) (fun _ q => q) rfl ?_
     refine Ow.iload (pc' := 125) B e52_123 (Ow.iconst (pc' := 126) (x := 1) B e52_125 ?_)
     refine Ow.icmpF (pc' := 129) B e52_126 (by decide) ?_
     refine Ow.aloadN (pc' := 130) B e52_129 (Ow.iloadN (pc' := 131) B e52_130 (Ow.aload (pc' := 133) B e52_131 (Ow.iload (pc' := 135) B e52_133 ?_)))
     have f93 := CAr.keep Kh82 (Ow.ninS (by omega) Ow.nin0)
     refine Ow.caload (pc' := 136) B e52_135 f93 ⟨by decide, by decide⟩ rfl ?_
     have f94 := XA.keep Kh82 (Ow.ninS (by omega) Ow.nin0)
     refine Ow.castore (pc' := 137) (i := (([] : List Int32)).length) B e52_136 (f94.pad (Ow.pad1 _ _)) ⟨by rw [show ((Int32.ofNat (([] : List Int32)).length)) = Int32.ofNat (([] : List Int32)).length from by simp]; exact Ow.nn (by first|omega|(simp;omega)|simp), by rw [show ((Int32.ofNat (([] : List Int32)).length)) = Int32.ofNat (([] : List Int32)).length from by simp]; exact Ow.nlT (n := 6) (by first|omega|(simp;omega)|simp)⟩ ?_ (hlt := by simp) (hi := by rw [show ((Int32.ofNat (([] : List Int32)).length)) = Int32.ofNat (([] : List Int32)).length from by simp]; exact Ow.nc (by first|omega|(simp;omega)|simp))
     intro h95 Kh95 V96
     have zh95 := Kh95.1
     rw [(loN pp), Ow.CAs] at V96
     refine Ow.iload (pc' := 139) B e52_137 (Ow.iconst (pc' := 140) (x := 2) B e52_139 ?_)
     refine Ow.icmpT (pc' := 155) B e52_140 (by decide) ?_
     refine Ow.iloadN (pc' := 156) B e52_155 (Ow.iload (pc' := 158) B e52_156 ?_)
     refine Ow.iadd (pc' := 159) (z := (Int32.ofNat ((([] : List Int32)).length + 1))) (hz := (Ow.nadd (([] : List Int32)).length 1)) B e52_158 ?_
     have f97 := f90.keep Kh95 (Ow.ninS (by omega) Ow.nin0)
     have f98 := f91.keep Kh95 (Ow.ninS (by omega) Ow.nin0)
     have f99 := f92.keep Kh95 (Ow.ninS (by omega) Ow.nin0) (Ow.ninS (by omega) Ow.nin0)
     exact Ow.retI (S' := [t85]) (t := .int) B e52_159 (⟨b84, t85, k86, [lo pp], (by simp), caCast V96 (by simp), (by simp), (((Keep.refl _ [tw, ex]).trans Kh82 (allS (Or.inl (by simp)) all0)).trans Kh95 (allS (Or.inl (by simp)) all0)), (by omega), (by omega), (by omega), f97, f98, f99.cast (by simp), rfl⟩)
theorem gStA2 (hw : Hw a0 Z) (G : Ow.Glo Z cz sf) (GS : GlS Z) {iof : Value} (GI : Sta Z Z.heap "jdk/internal/util/Preconditions" "IOOBE_FORMATTER" "Ljava/util/function/BiFunction;" iof ∧ iof.isRef = true) {h0 : Heap} (O0 : Old Z n0 h0) {tw : Nat} (E : Exa Z h0 tw "com/example/ply3/ply3/TextWriter") (hw0 : n0 ≤ tw) (X1 : Fld Z h0 tw "com/example/ply3/ply3/TextWriter" "text" "Ljava/lang/StringBuilder;" .null) (X2 : Fld Z h0 tw "com/example/ply3/ply3/TextWriter" "whole" "Ljava/lang/String;" .null) {ex : Nat} {kx : ClassId} (XA : Arv Z h0 ex kx .char 6 (Ow.CA ([] : List Int32)) (.int 0)) (hex : ex < tw) (hex0 : n0 ≤ ex) (h4 : (([] : List Int32)).length ≤ 4) {sn t ca : Nat} {kt kc : ClassId} {ss : List Int32} {e' pp : Int32} (F2 : Ow.Chs Z h0 sn t kt ss) (hS : StrP pp e' ss) (hsn : sn < tw) (hst : t < tw) (CAr : Arv Z h0 ca kc .char 2 [(.int (lo pp)), (.int (hi pp))] (.int 0)) (hca : ca < tw) (hd1 : ex ≠ ca) (hd2 : sn ≠ ex) (hd3 : t ≠ ex) :
    Ow.Con l Z EL1 n0 my52 method_5_code 10 (Option.some Jvm.ClassFile.FieldType.int) [] ({ frames := 11, cells := 3, slots := 60, locals := 156 } : Room) #[(.ref tw), (.ref ex), (.int (Int32.ofNat (([] : List Int32)).length)), (.int 2), (.int e'), (.int pp), (.ref sn), (.ref ca)] [] h0 (fun v h S' => Arv Z h ex kx .char 6 (Ow.CA ss) (.int 0) ∧ v = some (.int (Int32.ofNat ss.length)) ∧ Keep h0 h [tw, ex] ∧ Fld Z h tw "com/example/ply3/ply3/TextWriter" "text" "Ljava/lang/StringBuilder;" .null ∧ Fld Z h tw "com/example/ply3/ply3/TextWriter" "whole" "Ljava/lang/String;" (.ref sn) ∧ S' = []) := by
 rcases hS with ⟨he, rfl⟩ | ⟨he, rfl⟩ | rfl
 ·refine Ow.Con.enter (Ls := #[vR tw, vR ex, vI (Int32.ofNat (([] : List Int32)).length), vI 2, vI e', vI pp, vR sn, vR ca, .unset, .unset]) (plainFor_of_name pn8) O0 (hEW hw) (hSA hw) ?_
  intro p e s m below meth c B
  have z0 := Ow.old_le O0
  have ltw : (tw : Nat) < h0.size := E.lt
  have lsn : (sn : Nat) < h0.size := F2.lt
  have lts : (t : Nat) < h0.size := F2.ltt
  have lca : (ca : Nat) < h0.size := CAr.lt
  have lex : (ex : Nat) < h0.size := XA.lt
  have hcs : (([] : List Int32)).length ≤ 4 := h4
  refine Ow.iloadN (pc' := 1) B e52_0 (Ow.iconst (pc' := 2) (x := 1) B e52_1 ?_)
  refine Ow.icmpT (pc' := 21) B e52_2 (by decide) ?_
  refine Ow.iloadN (pc' := 22) B e52_21 (Ow.iconst (pc' := 23) (x := 2) B e52_22 ?_)
  refine Ow.icmpF (pc' := 26) B e52_23 (by decide) ?_
  refine Ow.aloadN (pc' := 27) B e52_26 (Ow.aload (pc' := 29) B e52_27 ?_)
  refine Ow.Go.old (fun o1 => ?_)
  refine Ow.callVirtual (pc' := 32) (W := 0) (k' := 3) (n' := 60) (argsL := [(.ref sn)]) (rest := []) (K := "com/example/ply3/ply3/TextWriter") B e52_29 (w227 hw) (w228 hw) (w230 hw) (w230 hw) (w229 hw) (w31 hw) (w231 hw) E (gWsA hw G GS GI o1 E (by omega) X1 X2 F2 (by omega) (by omega) (by first|omega|(simp;omega)|simp)) pd26 ?_
  intro vq2 h3 S4 q2 zh3
  obtain ⟨rfl, Kh3, f5, f6, rfl⟩ := q2
  refine Ow.Go.nr (S' := []) (st' := []) ?_
  refine Ow.aload (pc' := 34) B e52_32 ?_
  have f7 := F2.keep Kh3 (Ow.ninS (by omega) Ow.nin0) (Ow.ninS (by omega) Ow.nin0)
  refine Ow.Go.old (fun o8 => ?_)
  refine Ow.callVirtual (pc' := 37) (W := 0) (k' := 3) (n' := 60) (argsL := []) (rest := []) (K := "java/lang/String") B e52_34 (w56 hw) (w57 hw) (w59 hw) (w59 hw) (w58 hw) (w6 hw) (w60 hw) (f7).1 (gLen hw G GS GI o8 f7 (by first|omega|(simp;omega)|simp)) pd28 ?_
  intro vq9 h10 S11 q9 zh10
  obtain ⟨rfl, rfl, rfl⟩ := q9
  refine Ow.Go.nr (S' := []) (st' := [(.int 0)]) ?_
  refine Ow.istore (pc' := 39) (Ls' := #[vR tw, vR ex, vI (Int32.ofNat (([] : List Int32)).length), vI 2, vI e', vI pp, vR sn, vR ca, vI 0, .unset]) B e52_37 ?_
  refine Ow.iload (pc' := 41) B e52_39 (Ow.iconst (pc' := 42) (x := 1) B e52_41 ?_)
  refine Ow.icmpT (pc' := 51) B e52_42 (by decide) ?_
  refine Ow.iload (pc' := 53) B e52_51 (Ow.iconst (pc' := 54) (x := 2) B e52_53 ?_)
  refine Ow.icmpT (pc' := 68) B e52_54 (by decide) ?_
  refine Ow.iloadN (pc' := 69) B e52_68 (Ow.iload (pc' := 71) B e52_69 ?_)
  refine Ow.iadd (pc' := 72) (z := (Int32.ofNat ((([] : List Int32)).length + 0))) (hz := (Ow.nadd (([] : List Int32)).length 0)) B e52_71 ?_
  have f12 := XA.keep Kh3 (Ow.ninS (by omega) Ow.nin0)
  exact Ow.retI (S' := []) (t := .int) B e52_72 (⟨caCast f12 (by simp), (by simp), ((Keep.refl _ [tw, ex]).trans Kh3 (allS (Or.inl (by simp)) all0)), f5, f6, rfl⟩)
 ·refine Ow.Con.enter (Ls := #[vR tw, vR ex, vI (Int32.ofNat (([] : List Int32)).length), vI 2, vI e', vI pp, vR sn, vR ca, .unset, .unset]) (plainFor_of_name pn8) O0 (hEW hw) (hSA hw) ?_
  intro p e s m below meth c B
  have z0 := Ow.old_le O0
  have ltw : (tw : Nat) < h0.size := E.lt
  have lsn : (sn : Nat) < h0.size := F2.lt
  have lts : (t : Nat) < h0.size := F2.ltt
  have lca : (ca : Nat) < h0.size := CAr.lt
  have lex : (ex : Nat) < h0.size := XA.lt
  have hcs : (([] : List Int32)).length ≤ 4 := h4
  refine Ow.iloadN (pc' := 1) B e52_0 (Ow.iconst (pc' := 2) (x := 1) B e52_1 ?_)
  refine Ow.icmpT (pc' := 21) B e52_2 (by decide) ?_
  refine Ow.iloadN (pc' := 22) B e52_21 (Ow.iconst (pc' := 23) (x := 2) B e52_22 ?_)
  refine Ow.icmpF (pc' := 26) B e52_23 (by decide) ?_
  refine Ow.aloadN (pc' := 27) B e52_26 (Ow.aload (pc' := 29) B e52_27 ?_)
  refine Ow.Go.old (fun o1 => ?_)
  refine Ow.callVirtual (pc' := 32) (W := 0) (k' := 3) (n' := 60) (argsL := [(.ref sn)]) (rest := []) (K := "com/example/ply3/ply3/TextWriter") B e52_29 (w227 hw) (w228 hw) (w230 hw) (w230 hw) (w229 hw) (w31 hw) (w231 hw) E (gWsA hw G GS GI o1 E (by omega) X1 X2 F2 (by omega) (by omega) (by first|omega|(simp;omega)|simp)) pd26 ?_
  intro vq2 h3 S4 q2 zh3
  obtain ⟨rfl, Kh3, f5, f6, rfl⟩ := q2
  refine Ow.Go.nr (S' := []) (st' := []) ?_
  refine Ow.aload (pc' := 34) B e52_32 ?_
  have f7 := F2.keep Kh3 (Ow.ninS (by omega) Ow.nin0) (Ow.ninS (by omega) Ow.nin0)
  refine Ow.Go.old (fun o8 => ?_)
  refine Ow.callVirtual (pc' := 37) (W := 0) (k' := 3) (n' := 60) (argsL := []) (rest := []) (K := "java/lang/String") B e52_34 (w56 hw) (w57 hw) (w59 hw) (w59 hw) (w58 hw) (w6 hw) (w60 hw) (f7).1 (gLen hw G GS GI o8 f7 (by first|omega|(simp;omega)|simp)) pd28 ?_
  intro vq9 h10 S11 q9 zh10
  obtain ⟨rfl, rfl, rfl⟩ := q9
  refine Ow.Go.nr (S' := []) (st' := [(.int 1)]) ?_
  refine Ow.istore (pc' := 39) (Ls' := #[vR tw, vR ex, vI (Int32.ofNat (([] : List Int32)).length), vI 2, vI e', vI pp, vR sn, vR ca, vI 1, .unset]) B e52_37 ?_
  refine Ow.iload (pc' := 41) B e52_39 (Ow.iconst (pc' := 42) (x := 1) B e52_41 ?_)
  refine Ow.icmpF (pc' := 45) B e52_42 (by decide) ?_
  refine Ow.aloadN (pc' := 46) B e52_45 (Ow.iloadN (pc' := 47) B e52_46 (Ow.iload (pc' := 49) B e52_47 ?_))
  refine Ow.i2c (pc' := 50) (z := (lo pp)) B e52_49 ?_
  have f12 := XA.keep Kh3 (Ow.ninS (by omega) Ow.nin0)
  refine Ow.castore (pc' := 51) (i := (([] : List Int32)).length) B e52_50 (f12.pad (Ow.pad1 _ _)) ⟨by rw [show ((Int32.ofNat (([] : List Int32)).length)) = Int32.ofNat (([] : List Int32)).length from by simp]; exact Ow.nn (by first|omega|(simp;omega)|simp), by rw [show ((Int32.ofNat (([] : List Int32)).length)) = Int32.ofNat (([] : List Int32)).length from by simp]; exact Ow.nlT (n := 6) (by first|omega|(simp;omega)|simp)⟩ ?_ (hlt := by simp) (hi := by rw [show ((Int32.ofNat (([] : List Int32)).length)) = Int32.ofNat (([] : List Int32)).length from by simp]; exact Ow.nc (by first|omega|(simp;omega)|simp))
  intro h13 Kh13 V14
  have zh13 := Kh13.1
  rw [(loN pp), Ow.CAs] at V14
  refine Ow.iload (pc' := 53) B e52_51 (Ow.iconst (pc' := 54) (x := 2) B e52_53 ?_)
  refine Ow.icmpT (pc' := 68) B e52_54 (by decide) ?_
  refine Ow.iloadN (pc' := 69) B e52_68 (Ow.iload (pc' := 71) B e52_69 ?_)
  refine Ow.iadd (pc' := 72) (z := (Int32.ofNat ((([] : List Int32)).length + 1))) (hz := (Ow.nadd (([] : List Int32)).length 1)) B e52_71 ?_
  have f15 := f5.keep Kh13 (Ow.ninS (by omega) Ow.nin0)
  have f16 := f6.keep Kh13 (Ow.ninS (by omega) Ow.nin0)
  exact Ow.retI (S' := []) (t := .int) B e52_72 (⟨caCast V14 (by simp), (by simp), (((Keep.refl _ [tw, ex]).trans Kh3 (allS (Or.inl (by simp)) all0)).trans Kh13 (allS (Or.inl (by simp)) all0)), f15, f16, rfl⟩)
 ·refine Ow.Con.enter (Ls := #[vR tw, vR ex, vI (Int32.ofNat (([] : List Int32)).length), vI 2, vI e', vI pp, vR sn, vR ca, .unset, .unset]) (plainFor_of_name pn8) O0 (hEW hw) (hSA hw) ?_
  intro p e s m below meth c B
  have z0 := Ow.old_le O0
  have ltw : (tw : Nat) < h0.size := E.lt
  have lsn : (sn : Nat) < h0.size := F2.lt
  have lts : (t : Nat) < h0.size := F2.ltt
  have lca : (ca : Nat) < h0.size := CAr.lt
  have lex : (ex : Nat) < h0.size := XA.lt
  have hcs : (([] : List Int32)).length ≤ 4 := h4
  refine Ow.iloadN (pc' := 1) B e52_0 (Ow.iconst (pc' := 2) (x := 1) B e52_1 ?_)
  refine Ow.icmpT (pc' := 21) B e52_2 (by decide) ?_
  refine Ow.iloadN (pc' := 22) B e52_21 (Ow.iconst (pc' := 23) (x := 2) B e52_22 ?_)
  refine Ow.icmpF (pc' := 26) B e52_23 (by decide) ?_
  refine Ow.aloadN (pc' := 27) B e52_26 (Ow.aload (pc' := 29) B e52_27 ?_)
  refine Ow.Go.old (fun o1 => ?_)
  refine Ow.callVirtual (pc' := 32) (W := 0) (k' := 3) (n' := 60) (argsL := [(.ref sn)]) (rest := []) (K := "com/example/ply3/ply3/TextWriter") B e52_29 (w227 hw) (w228 hw) (w230 hw) (w230 hw) (w229 hw) (w31 hw) (w231 hw) E (gWsA hw G GS GI o1 E (by omega) X1 X2 F2 (by omega) (by omega) (by first|omega|(simp;omega)|simp)) pd26 ?_
  intro vq2 h3 S4 q2 zh3
  obtain ⟨rfl, Kh3, f5, f6, rfl⟩ := q2
  refine Ow.Go.nr (S' := []) (st' := []) ?_
  refine Ow.aload (pc' := 34) B e52_32 ?_
  have f7 := F2.keep Kh3 (Ow.ninS (by omega) Ow.nin0) (Ow.ninS (by omega) Ow.nin0)
  refine Ow.Go.old (fun o8 => ?_)
  refine Ow.callVirtual (pc' := 37) (W := 0) (k' := 3) (n' := 60) (argsL := []) (rest := []) (K := "java/lang/String") B e52_34 (w56 hw) (w57 hw) (w59 hw) (w59 hw) (w58 hw) (w6 hw) (w60 hw) (f7).1 (gLen hw G GS GI o8 f7 (by first|omega|(simp;omega)|simp)) pd28 ?_
  intro vq9 h10 S11 q9 zh10
  obtain ⟨rfl, rfl, rfl⟩ := q9
  refine Ow.Go.nr (S' := []) (st' := [(.int 2)]) ?_
  refine Ow.istore (pc' := 39) (Ls' := #[vR tw, vR ex, vI (Int32.ofNat (([] : List Int32)).length), vI 2, vI e', vI pp, vR sn, vR ca, vI 2, .unset]) B e52_37 ?_
  refine Ow.iload (pc' := 41) B e52_39 (Ow.iconst (pc' := 42) (x := 1) B e52_41 ?_)
  refine Ow.icmpF (pc' := 45) B e52_42 (by decide) ?_
  refine Ow.aloadN (pc' := 46) B e52_45 (Ow.iloadN (pc' := 47) B e52_46 (Ow.iload (pc' := 49) B e52_47 ?_))
  refine Ow.i2c (pc' := 50) (z := (lo pp)) B e52_49 ?_
  have f12 := XA.keep Kh3 (Ow.ninS (by omega) Ow.nin0)
  refine Ow.castore (pc' := 51) (i := (([] : List Int32)).length) B e52_50 (f12.pad (Ow.pad1 _ _)) ⟨by rw [show ((Int32.ofNat (([] : List Int32)).length)) = Int32.ofNat (([] : List Int32)).length from by simp]; exact Ow.nn (by first|omega|(simp;omega)|simp), by rw [show ((Int32.ofNat (([] : List Int32)).length)) = Int32.ofNat (([] : List Int32)).length from by simp]; exact Ow.nlT (n := 6) (by first|omega|(simp;omega)|simp)⟩ ?_ (hlt := by simp) (hi := by rw [show ((Int32.ofNat (([] : List Int32)).length)) = Int32.ofNat (([] : List Int32)).length from by simp]; exact Ow.nc (by first|omega|(simp;omega)|simp))
  intro h13 Kh13 V14
  have zh13 := Kh13.1
  rw [(loN pp), Ow.CAs] at V14
  refine Ow.iload (pc' := 53) B e52_51 (Ow.iconst (pc' := 54) (x := 2) B e52_53 ?_)
  refine Ow.icmpF (pc' := 57) B e52_54 (by decide) ?_
  refine Ow.aloadN (pc' := 58) B e52_57 (Ow.iloadN (pc' := 59) B e52_58 (Ow.iconst (pc' := 60) (x := 1) B e52_59 ?_))
  refine Ow.iadd (pc' := 61) (z := (Int32.ofNat ((([] : List Int32)).length + 1))) (hz := (Ow.nadd (([] : List Int32)).length 1)) B e52_60 ?_
  refine Ow.iload (pc' := 63) B e52_61 (Ow.bipush (pc' := 65) (x := 16) B e52_63 ?_)
  refine Ow.iushr (pc' := 66) (z := (Jvm.Free.XT.ushr pp (16 : Int32))) B e52_65 ?_
  refine Ow.i2c (pc' := 67) (z := (hi pp)) B e52_66 ?_
  refine Ow.castore (pc' := 68) (i := (([] : List Int32) ++ [(lo pp)]).length) B e52_67 (V14.pad (Ow.pad1 _ _)) ⟨by rw [show ((Int32.ofNat ((([] : List Int32)).length + 1))) = Int32.ofNat (([] : List Int32) ++ [(lo pp)]).length from by simp]; exact Ow.nn (by first|omega|(simp;omega)|simp), by rw [show ((Int32.ofNat ((([] : List Int32)).length + 1))) = Int32.ofNat (([] : List Int32) ++ [(lo pp)]).length from by simp]; exact Ow.nlT (n := 6) (by first|omega|(simp;omega)|simp)⟩ ?_ (hlt := by simp) (hi := by rw [show ((Int32.ofNat ((([] : List Int32)).length + 1))) = Int32.ofNat (([] : List Int32) ++ [(lo pp)]).length from by simp]; exact Ow.nc (by first|omega|(simp;omega)|simp))
  intro h15 Kh15 V16
  have zh15 := Kh15.1
  rw [(hiN pp), Ow.CAs] at V16
  refine Ow.iloadN (pc' := 69) B e52_68 (Ow.iload (pc' := 71) B e52_69 ?_)
  refine Ow.iadd (pc' := 72) (z := (Int32.ofNat ((([] : List Int32)).length + 2))) (hz := (Ow.nadd (([] : List Int32)).length 2)) B e52_71 ?_
  have f17 := f5.keep Kh13 (Ow.ninS (by omega) Ow.nin0)
  have f18 := f17.keep Kh15 (Ow.ninS (by omega) Ow.nin0)
  have f19 := f6.keep Kh13 (Ow.ninS (by omega) Ow.nin0)
  have f20 := f19.keep Kh15 (Ow.ninS (by omega) Ow.nin0)
  exact Ow.retI (S' := []) (t := .int) B e52_72 (⟨caCast V16 (by simp), (by simp), ((((Keep.refl _ [tw, ex]).trans Kh3 (allS (Or.inl (by simp)) all0)).trans Kh13 (allS (Or.inl (by simp)) all0)).trans Kh15 (allS (Or.inl (by simp)) all0)), f18, f20, rfl⟩)
theorem gStB (hw : Hw a0 Z) (G : Ow.Glo Z cz sf) (GS : GlS Z) {iof : Value} (GI : Sta Z Z.heap "jdk/internal/util/Preconditions" "IOOBE_FORMATTER" "Ljava/util/function/BiFunction;" iof ∧ iof.isRef = true) {h0 : Heap} (O0 : Old Z n0 h0) {tw : Nat} (E : Exa Z h0 tw "com/example/ply3/ply3/TextWriter") (hw0 : n0 ≤ tw) {wn wt : Nat} {wk : ClassId} {cs : List Int32} (X1 : Fld Z h0 tw "com/example/ply3/ply3/TextWriter" "text" "Ljava/lang/StringBuilder;" .null) (X2 : Fld Z h0 tw "com/example/ply3/ply3/TextWriter" "whole" "Ljava/lang/String;" (.ref wn)) (FW : Ow.Chs Z h0 wn wt wk cs) (hwn : wn < tw) (hwt : wt < tw) (hc : cs.length + 2 ≤ 16) {ex : Nat} {kx : ClassId} (XA : Arv Z h0 ex kx .char 6 (Ow.CA cs) (.int 0)) (hex : ex < tw) (hex0 : n0 ≤ ex) (h4 : (cs).length ≤ 4) {sn t ca : Nat} {kt kc : ClassId} {ss : List Int32} {e' pp : Int32} (F2 : Ow.Chs Z h0 sn t kt ss) (hS : StrP pp e' ss) (hsn : sn < tw) (hst : t < tw) (CAr : Arv Z h0 ca kc .char 2 [(.int (lo pp)), (.int (hi pp))] (.int 0)) (hca : ca < tw) (hd1 : ex ≠ ca) (hd2 : sn ≠ ex) (hd3 : t ≠ ex) {kd : Int32} (hk : kd = 1 ∨ kd = 2 ∨ kd = 3) :
    Ow.Con l Z EL1 n0 my52 method_5_code 10 (Option.some Jvm.ClassFile.FieldType.int) [] ({ frames := 12, cells := 6, slots := 112, locals := 170 } : Room) #[(.ref tw), (.ref ex), (.int (Int32.ofNat cs.length)), (.int kd), (.int e'), (.int pp), (.ref sn), (.ref ca)] [] h0 (fun v h S' => ∃ b' : Nat, ∃ t' : Nat, ∃ kr : ClassId, ∃ ds : List Int32, ds.length ≤ 2 ∧ Arv Z h ex kx .char 6 (Ow.CA (cs ++ ds)) (.int 0) ∧ v = some (.int (Int32.ofNat (cs ++ ds).length)) ∧ Keep h0 h [tw, ex] ∧ h0.size ≤ b' ∧ h0.size ≤ t' ∧ b' ≠ t' ∧ Fld Z h tw "com/example/ply3/ply3/TextWriter" "text" "Ljava/lang/StringBuilder;" (.ref b') ∧ Fld Z h tw "com/example/ply3/ply3/TextWriter" "whole" "Ljava/lang/String;" .null ∧ Sbd Z h b' t' kr (cs ++ ds) ∧ S' = [t']) := by
 refine Ow.Con.enter (Ls := #[vR tw, vR ex, vI (Int32.ofNat cs.length), vI kd, vI e', vI pp, vR sn, vR ca, .unset, .unset]) (plainFor_of_name pn8) O0 (hEW hw) (hSA hw) ?_
 intro p e s m below meth c B
 have z0 := Ow.old_le O0
 have ltw : (tw : Nat) < h0.size := E.lt
 have lwn : (wn : Nat) < h0.size := FW.lt
 have lwt : (wt : Nat) < h0.size := FW.ltt
 have lsn : (sn : Nat) < h0.size := F2.lt
 have lts : (t : Nat) < h0.size := F2.ltt
 have lca : (ca : Nat) < h0.size := CAr.lt
 have lex : (ex : Nat) < h0.size := XA.lt
 have hcs : (cs).length ≤ 4 := h4
 refine Ow.iloadN (pc' := 1) B e52_0 (Ow.iconst (pc' := 2) (x := 1) B e52_1 ?_)
 by_cases k1 : kd = (1 : Int32)
 ·refine Ow.icmpF (pc' := 5) B e52_2 (teq k1).2 ?_
  refine Ow.aloadN (pc' := 6) B e52_5 (Ow.iload (pc' := 8) B e52_6 ?_)
  refine Ow.Go.old (fun o1 => ?_)
  refine Ow.callVirtual (pc' := 11) (W := 0) (k' := 4) (n' := 84) (argsL := [(.int pp)]) (rest := []) (K := "com/example/ply3/ply3/TextWriter") B e52_8 (w310 hw) (w311 hw) (w313 hw) (w313 hw) (w312 hw) (w31 hw) (w314 hw) E (gWiB hw G GS GI (pp := pp) o1 E (by omega) X1 X2 FW (by omega) (by omega) (by first|omega|(simp;omega)|simp)) pd20 ?_
  intro vq2 h3 S4 q2 zh3
  obtain ⟨b5, t6, k7, rfl, Kh3, f8, f9, f10, f11, f12, f13, rfl⟩ := q2
  have lb5 : (b5 : Nat) < h3.size := f13.lt
  have lt6 : (t6 : Nat) < h3.size := f13.ltt
  refine Ow.Go.norm (S' := [t6]) (st' := []) (fun _ q => q) rfl ?_
  refine Ow.aloadN (pc' := 12) B e52_11 (Ow.iloadN (pc' := 13) B e52_12 (Ow.iload (pc' := 15) B e52_13 ?_))
  refine Ow.i2c (pc' := 16) (z := (lo pp)) B e52_15 ?_
  have f14 := XA.keep Kh3 (Ow.ninS (by omega) Ow.nin0)
  refine Ow.castore (pc' := 17) (i := (cs).length) B e52_16 (f14.pad (Ow.pad1 _ _)) ⟨by rw [show ((Int32.ofNat cs.length)) = Int32.ofNat (cs).length from by simp]; exact Ow.nn (by first|omega|(simp;omega)|simp), by rw [show ((Int32.ofNat cs.length)) = Int32.ofNat (cs).length from by simp]; exact Ow.nlT (n := 6) (by first|omega|(simp;omega)|simp)⟩ ?_ (hlt := by simp) (hi := by rw [show ((Int32.ofNat cs.length)) = Int32.ofNat (cs).length from by simp]; exact Ow.nc (by first|omega|(simp;omega)|simp))
  intro h15 Kh15 V16
  have zh15 := Kh15.1
  rw [(loN pp), Ow.CAs] at V16
  refine Ow.iloadN (pc' := 18) B e52_17 (Ow.iconst (pc' := 19) (x := 1) B e52_18 ?_)
  refine Ow.iadd (pc' := 20) (z := (Int32.ofNat (cs.length + 1))) (hz := (Ow.nadd cs.length 1)) B e52_19 ?_
  have f17 := f11.keep Kh15 (Ow.ninS (by omega) Ow.nin0)
  have f18 := f12.keep Kh15 (Ow.ninS (by omega) Ow.nin0)
  have f19 := f13.keep Kh15 (Ow.ninS (by omega) Ow.nin0) (Ow.ninS (by omega) Ow.nin0)
  exact Ow.retI (S' := [t6]) (t := .int) B e52_20 (⟨b5, t6, k7, [lo pp], (by simp), caCast V16 (by simp), (by simp), (((Keep.refl _ [tw, ex]).trans Kh3 (allS (Or.inl (by simp)) all0)).trans Kh15 (allS (Or.inl (by simp)) all0)), (by omega), (by omega), (by omega), f17, f18, f19.cast (by simp), rfl⟩)
 ·refine Ow.icmpT (pc' := 21) B e52_2 (feq k1).2 ?_
  refine Ow.iloadN (pc' := 22) B e52_21 (Ow.iconst (pc' := 23) (x := 2) B e52_22 ?_)
  by_cases k2 : kd = (2 : Int32)
  ·refine Ow.icmpF (pc' := 26) B e52_23 (teq k2).2 ?_
   rcases hS with ⟨he, rfl⟩ | ⟨he, rfl⟩ | rfl
   ·refine Ow.aloadN (pc' := 27) B e52_26 (Ow.aload (pc' := 29) B e52_27 ?_)
    refine Ow.Go.old (fun o20 => ?_)
    refine Ow.callVirtual (pc' := 32) (W := 0) (k' := 6) (n' := 112) (argsL := [(.ref sn)]) (rest := []) (K := "com/example/ply3/ply3/TextWriter") B e52_29 (w227 hw) (w228 hw) (w230 hw) (w230 hw) (w229 hw) (w31 hw) (w231 hw) E (gWsB hw G GS GI o20 E (by omega) X1 X2 FW (by omega) (by omega) (by first|omega|(simp;omega)|simp) F2 (by omega) (by omega) (by first|omega|(simp;omega)|simp)) pd26 ?_
    intro vq21 h22 S23 q21 zh22
    obtain ⟨b24, t25, k26, rfl, Kh22, f27, f28, f29, f30, f31, f32, rfl⟩ := q21
    have lb24 : (b24 : Nat) < h22.size := f32.lt
    have lt25 : (t25 : Nat) < h22.size := f32.ltt
    refine Ow.Go.norm (S' := [t25]) (st' := []) (fun _ q => q) rfl ?_
    refine Ow.aload (pc' := 34) B e52_32 ?_
    have f33 := F2.keep Kh22 (Ow.ninS (by omega) Ow.nin0) (Ow.ninS (by omega) Ow.nin0)
    refine Ow.Go.old (fun o34 => ?_)
    refine Ow.callVirtual (pc' := 37) (W := 0) (k' := 6) (n' := 112) (argsL := []) (rest := []) (K := "java/lang/String") B e52_34 (w56 hw) (w57 hw) (w59 hw) (w59 hw) (w58 hw) (w6 hw) (w60 hw) (f33).1 (gLen hw G GS GI o34 f33 (by first|omega|(simp;omega)|simp)) pd28 ?_
    intro vq35 h36 S37 q35 zh36
    obtain ⟨rfl, rfl, rfl⟩ := q35
    refine Ow.Go.nr (S' := [t25]) (st' := [(.int 0)]) ?_
    refine Ow.istore (pc' := 39) (Ls' := #[vR tw, vR ex, vI (Int32.ofNat cs.length), vI kd, vI e', vI pp, vR sn, vR ca, vI 0, .unset]) B e52_37 ?_
    refine Ow.iload (pc' := 41) B e52_39 (Ow.iconst (pc' := 42) (x := 1) B e52_41 ?_)
    refine Ow.icmpT (pc' := 51) B e52_42 (by decide) ?_
    refine Ow.iload (pc' := 53) B e52_51 (Ow.iconst (pc' := 54) (x := 2) B e52_53 ?_)
    refine Ow.icmpT (pc' := 68) B e52_54 (by decide) ?_
    refine Ow.iloadN (pc' := 69) B e52_68 (Ow.iload (pc' := 71) B e52_69 ?_)
    refine Ow.iadd (pc' := 72) (z := (Int32.ofNat (cs.length + 0))) (hz := (Ow.nadd cs.length 0)) B e52_71 ?_
    have f38 := XA.keep Kh22 (Ow.ninS (by omega) Ow.nin0)
    exact Ow.retI (S' := [t25]) (t := .int) B e52_72 (⟨b24, t25, k26, [], (by simp), caCast f38 (by simp), (by simp), ((Keep.refl _ [tw, ex]).trans Kh22 (allS (Or.inl (by simp)) all0)), (by omega), (by omega), (by omega), f30, f31, f32.cast (by simp), rfl⟩)
   ·refine Ow.aloadN (pc' := 27) B e52_26 (Ow.aload (pc' := 29) B e52_27 ?_)
    refine Ow.Go.old (fun o39 => ?_)
    refine Ow.callVirtual (pc' := 32) (W := 0) (k' := 6) (n' := 112) (argsL := [(.ref sn)]) (rest := []) (K := "com/example/ply3/ply3/TextWriter") B e52_29 (w227 hw) (w228 hw) (w230 hw) (w230 hw) (w229 hw) (w31 hw) (w231 hw) E (gWsB hw G GS GI o39 E (by omega) X1 X2 FW (by omega) (by omega) (by first|omega|(simp;omega)|simp) F2 (by omega) (by omega) (by first|omega|(simp;omega)|simp)) pd26 ?_
    intro vq40 h41 S42 q40 zh41
    obtain ⟨b43, t44, k45, rfl, Kh41, f46, f47, f48, f49, f50, f51, rfl⟩ := q40
    have lb43 : (b43 : Nat) < h41.size := f51.lt
    have lt44 : (t44 : Nat) < h41.size := f51.ltt
    refine Ow.Go.norm (S' := [t44]) (st' := []) (fun _ q => q) rfl ?_
    refine Ow.aload (pc' := 34) B e52_32 ?_
    have f52 := F2.keep Kh41 (Ow.ninS (by omega) Ow.nin0) (Ow.ninS (by omega) Ow.nin0)
    refine Ow.Go.old (fun o53 => ?_)
    refine Ow.callVirtual (pc' := 37) (W := 0) (k' := 6) (n' := 112) (argsL := []) (rest := []) (K := "java/lang/String") B e52_34 (w56 hw) (w57 hw) (w59 hw) (w59 hw) (w58 hw) (w6 hw) (w60 hw) (f52).1 (gLen hw G GS GI o53 f52 (by first|omega|(simp;omega)|simp)) pd28 ?_
    intro vq54 h55 S56 q54 zh55
    obtain ⟨rfl, rfl, rfl⟩ := q54
    refine Ow.Go.nr (S' := [t44]) (st' := [(.int 1)]) ?_
    refine Ow.istore (pc' := 39) (Ls' := #[vR tw, vR ex, vI (Int32.ofNat cs.length), vI kd, vI e', vI pp, vR sn, vR ca, vI 1, .unset]) B e52_37 ?_
    refine Ow.iload (pc' := 41) B e52_39 (Ow.iconst (pc' := 42) (x := 1) B e52_41 ?_)
    refine Ow.icmpF (pc' := 45) B e52_42 (by decide) ?_
    refine Ow.aloadN (pc' := 46) B e52_45 (Ow.iloadN (pc' := 47) B e52_46 (Ow.iload (pc' := 49) B e52_47 ?_))
    refine Ow.i2c (pc' := 50) (z := (lo pp)) B e52_49 ?_
    have f57 := XA.keep Kh41 (Ow.ninS (by omega) Ow.nin0)
    refine Ow.castore (pc' := 51) (i := (cs).length) B e52_50 (f57.pad (Ow.pad1 _ _)) ⟨by rw [show ((Int32.ofNat cs.length)) = Int32.ofNat (cs).length from by simp]; exact Ow.nn (by first|omega|(simp;omega)|simp), by rw [show ((Int32.ofNat cs.length)) = Int32.ofNat (cs).length from by simp]; exact Ow.nlT (n := 6) (by first|omega|(simp;omega)|simp)⟩ ?_ (hlt := by simp) (hi := by rw [show ((Int32.ofNat cs.length)) = Int32.ofNat (cs).length from by simp]; exact Ow.nc (by first|omega|(simp;omega)|simp))
    intro h58 Kh58 V59
    have zh58 := Kh58.1
    rw [(loN pp), Ow.CAs] at V59
    refine Ow.iload (pc' := 53) B e52_51 (Ow.iconst (pc' := 54) (x := 2) B e52_53 ?_)
    refine Ow.icmpT (pc' := 68) B e52_54 (by decide) ?_
    refine Ow.iloadN (pc' := 69) B e52_68 (Ow.iload (pc' := 71) B e52_69 ?_)
    refine Ow.iadd (pc' := 72) (z := (Int32.ofNat (cs.length + 1))) (hz := (Ow.nadd cs.length 1)) B e52_71 ?_
    have f60 := f49.keep Kh58 (Ow.ninS (by omega) Ow.nin0)
    have f61 := f50.keep Kh58 (Ow.ninS (by omega) Ow.nin0)
    have f62 := f51.keep Kh58 (Ow.ninS (by omega) Ow.nin0) (Ow.ninS (by omega) Ow.nin0)
    exact Ow.retI (S' := [t44]) (t := .int) B e52_72 (⟨b43, t44, k45, [lo pp], (by simp), caCast V59 (by simp), (by simp), (((Keep.refl _ [tw, ex]).trans Kh41 (allS (Or.inl (by simp)) all0)).trans Kh58 (allS (Or.inl (by simp)) all0)), (by omega), (by omega), (by omega), f60, f61, f62.cast (by simp), rfl⟩)
   ·refine Ow.aloadN (pc' := 27) B e52_26 (Ow.aload (pc' := 29) B e52_27 ?_)
    refine Ow.Go.old (fun o63 => ?_)
    refine Ow.callVirtual (pc' := 32) (W := 0) (k' := 6) (n' := 112) (argsL := [(.ref sn)]) (rest := []) (K := "com/example/ply3/ply3/TextWriter") B e52_29 (w227 hw) (w228 hw) (w230 hw) (w230 hw) (w229 hw) (w31 hw) (w231 hw) E (gWsB hw G GS GI o63 E (by omega) X1 X2 FW (by omega) (by omega) (by first|omega|(simp;omega)|simp) F2 (by omega) (by omega) (by first|omega|(simp;omega)|simp)) pd26 ?_
    intro vq64 h65 S66 q64 zh65
    obtain ⟨b67, t68, k69, rfl, Kh65, f70, f71, f72, f73, f74, f75, rfl⟩ := q64
    have lb67 : (b67 : Nat) < h65.size := f75.lt
    have lt68 : (t68 : Nat) < h65.size := f75.ltt
    refine Ow.Go.norm (S' := [t68]) (st' := []) (fun _ q => q) rfl ?_
    refine Ow.aload (pc' := 34) B e52_32 ?_
    have f76 := F2.keep Kh65 (Ow.ninS (by omega) Ow.nin0) (Ow.ninS (by omega) Ow.nin0)
    refine Ow.Go.old (fun o77 => ?_)
    refine Ow.callVirtual (pc' := 37) (W := 0) (k' := 6) (n' := 112) (argsL := []) (rest := []) (K := "java/lang/String") B e52_34 (w56 hw) (w57 hw) (w59 hw) (w59 hw) (w58 hw) (w6 hw) (w60 hw) (f76).1 (gLen hw G GS GI o77 f76 (by first|omega|(simp;omega)|simp)) pd28 ?_
    intro vq78 h79 S80 q78 zh79
    obtain ⟨rfl, rfl, rfl⟩ := q78
    refine Ow.Go.nr (S' := [t68]) (st' := [(.int 2)]) ?_
    refine Ow.istore (pc' := 39) (Ls' := #[vR tw, vR ex, vI (Int32.ofNat cs.length), vI kd, vI e', vI pp, vR sn, vR ca, vI 2, .unset]) B e52_37 ?_
    refine Ow.iload (pc' := 41) B e52_39 (Ow.iconst (pc' := 42) (x := 1) B e52_41 ?_)
    refine Ow.icmpF (pc' := 45) B e52_42 (by decide) ?_
    refine Ow.aloadN (pc' := 46) B e52_45 (Ow.iloadN (pc' := 47) B e52_46 (Ow.iload (pc' := 49) B e52_47 ?_))
    refine Ow.i2c (pc' := 50) (z := (lo pp)) B e52_49 ?_
    have f81 := XA.keep Kh65 (Ow.ninS (by omega) Ow.nin0)
    refine Ow.castore (pc' := 51) (i := (cs).length) B e52_50 (f81.pad (Ow.pad1 _ _)) ⟨by rw [show ((Int32.ofNat cs.length)) = Int32.ofNat (cs).length from by simp]; exact Ow.nn (by first|omega|(simp;omega)|simp), by rw [show ((Int32.ofNat cs.length)) = Int32.ofNat (cs).length from by simp]; exact Ow.nlT (n := 6) (by first|omega|(simp;omega)|simp)⟩ ?_ (hlt := by simp) (hi := by rw [show ((Int32.ofNat cs.length)) = Int32.ofNat (cs).length from by simp]; exact Ow.nc (by first|omega|(simp;omega)|simp))
    intro h82 Kh82 V83
    have zh82 := Kh82.1
    rw [(loN pp), Ow.CAs] at V83
    refine Ow.iload (pc' := 53) B e52_51 (Ow.iconst (pc' := 54) (x := 2) B e52_53 ?_)
    refine Ow.icmpF (pc' := 57) B e52_54 (by decide) ?_
    refine Ow.aloadN (pc' := 58) B e52_57 (Ow.iloadN (pc' := 59) B e52_58 (Ow.iconst (pc' := 60) (x := 1) B e52_59 ?_))
    refine Ow.iadd (pc' := 61) (z := (Int32.ofNat (cs.length + 1))) (hz := (Ow.nadd cs.length 1)) B e52_60 ?_
    refine Ow.iload (pc' := 63) B e52_61 (Ow.bipush (pc' := 65) (x := 16) B e52_63 ?_)
    refine Ow.iushr (pc' := 66) (z := (Jvm.Free.XT.ushr pp (16 : Int32))) B e52_65 ?_
    refine Ow.i2c (pc' := 67) (z := (hi pp)) B e52_66 ?_
    refine Ow.castore (pc' := 68) (i := (cs ++ [(lo pp)]).length) B e52_67 (V83.pad (Ow.pad1 _ _)) ⟨by rw [show ((Int32.ofNat (cs.length + 1))) = Int32.ofNat (cs ++ [(lo pp)]).length from by simp]; exact Ow.nn (by first|omega|(simp;omega)|simp), by rw [show ((Int32.ofNat (cs.length + 1))) = Int32.ofNat (cs ++ [(lo pp)]).length from by simp]; exact Ow.nlT (n := 6) (by first|omega|(simp;omega)|simp)⟩ ?_ (hlt := by simp) (hi := by rw [show ((Int32.ofNat (cs.length + 1))) = Int32.ofNat (cs ++ [(lo pp)]).length from by simp]; exact Ow.nc (by first|omega|(simp;omega)|simp))
    intro h84 Kh84 V85
    have zh84 := Kh84.1
    rw [(hiN pp), Ow.CAs] at V85
    refine Ow.iloadN (pc' := 69) B e52_68 (Ow.iload (pc' := 71) B e52_69 ?_)
    refine Ow.iadd (pc' := 72) (z := (Int32.ofNat (cs.length + 2))) (hz := (Ow.nadd cs.length 2)) B e52_71 ?_
    have f86 := f73.keep Kh82 (Ow.ninS (by omega) Ow.nin0)
    have f87 := f86.keep Kh84 (Ow.ninS (by omega) Ow.nin0)
    have f88 := f74.keep Kh82 (Ow.ninS (by omega) Ow.nin0)
    have f89 := f88.keep Kh84 (Ow.ninS (by omega) Ow.nin0)
    have f90 := f75.keep Kh82 (Ow.ninS (by omega) Ow.nin0) (Ow.ninS (by omega) Ow.nin0)
    have f91 := f90.keep Kh84 (Ow.ninS (by omega) Ow.nin0) (Ow.ninS (by omega) Ow.nin0)
    exact Ow.retI (S' := [t68]) (t := .int) B e52_72 (⟨b67, t68, k69, [lo pp, hi pp], (by simp), caCast V85 (by simp), (by simp), ((((Keep.refl _ [tw, ex]).trans Kh65 (allS (Or.inl (by simp)) all0)).trans Kh82 (allS (Or.inl (by simp)) all0)).trans Kh84 (allS (Or.inl (by simp)) all0)), (by omega), (by omega), (by omega), f87, f89, f91.cast (by simp), rfl⟩)
  ·refine Ow.icmpT (pc' := 73) B e52_23 (feq k2).2 ?_
   refine Ow.iloadN (pc' := 74) B e52_73 (Ow.iconst (pc' := 75) (x := 3) B e52_74 ?_)
   refine Ow.icmpF (pc' := 78) B e52_75 (teq ((hk.resolve_left k1).resolve_left k2)).2 ?_
   refine Ow.iload (pc' := 80) B e52_78 (Ow.iconst (pc' := 81) (x := 1) B e52_80 ?_)
   by_cases e1 : e' = (1 : Int32)
   ·refine Ow.icmpF (pc' := 84) B e52_81 (teq e1).2 ?_
    refine Ow.iconst (pc' := 85) (x := 1) B e52_84 ?_
    refine Ow.goto (pc' := 89) B e52_85 ?_
    refine Ow.istore (pc' := 91) (Ls' := #[vR tw, vR ex, vI (Int32.ofNat cs.length), vI kd, vI e', vI pp, vR sn, vR ca, vI 1, .unset]) B e52_89 ?_
    refine Ow.iload (pc' := 93) B e52_91 ?_
    refine Ow.ifT (pc' := 100) B e52_93 (feq (fun q => absurd (q.symm.trans e1) (by decide))).2 ?_
    refine Ow.iload (pc' := 102) B e52_100 (Ow.iconst (pc' := 103) (x := 2) B e52_102 ?_)
    refine Ow.icmpT (pc' := 110) B e52_103 (feq (fun q => absurd (q.symm.trans e1) (by decide))).2 ?_
    refine Ow.iconst (pc' := 111) (x := 1) B e52_110 ?_
    refine Ow.istore (pc' := 113) (Ls' := #[vR tw, vR ex, vI (Int32.ofNat cs.length), vI kd, vI e', vI pp, vR sn, vR ca, vI 1, vI 1]) B e52_111 ?_
    refine Ow.aloadN (pc' := 114) B e52_113 (Ow.aload (pc' := 116) B e52_114 (Ow.iload (pc' := 118) B e52_116 (Ow.iload (pc' := 120) B e52_118 ?_)))
    refine Ow.Go.old (fun o92 => ?_)
    refine Ow.callVirtual (pc' := 123) (W := 0) (k' := 4) (n' := 84) (argsL := [(.ref ca), (.int 1), (.int 1)]) (rest := []) (K := "com/example/ply3/ply3/TextWriter") B e52_120 (w80 hw) (w81 hw) (w83 hw) (w83 hw) (w82 hw) (w31 hw) (w84 hw) E (gWaB12 hw G GS GI (pp := pp) o92 E (by omega) X1 X2 FW (by omega) (by omega) (by first|omega|(simp;omega)|simp) CAr (by omega)) pd24 ?_
    intro vq93 h94 S95 q93 zh94
    obtain ⟨b96, t97, k98, rfl, Kh94, f99, f100, f101, f102, f103, f104, rfl⟩ := q93
    have lb96 : (b96 : Nat) < h94.size := f104.lt
    have lt97 : (t97 : Nat) < h94.size := f104.ltt
    refine Ow.Go.norm (S' := [t97]) (st' := []) (fun _ q => q) rfl ?_
    refine Ow.iload (pc' := 125) B e52_123 (Ow.iconst (pc' := 126) (x := 1) B e52_125 ?_)
    refine Ow.icmpF (pc' := 129) B e52_126 (by decide) ?_
    refine Ow.aloadN (pc' := 130) B e52_129 (Ow.iloadN (pc' := 131) B e52_130 (Ow.aload (pc' := 133) B e52_131 (Ow.iload (pc' := 135) B e52_133 ?_)))
    have f105 := CAr.keep Kh94 (Ow.ninS (by omega) Ow.nin0)
    refine Ow.caload (pc' := 136) B e52_135 f105 ⟨by decide, by decide⟩ rfl ?_
    have f106 := XA.keep Kh94 (Ow.ninS (by omega) Ow.nin0)
    refine Ow.castore (pc' := 137) (i := (cs).length) B e52_136 (f106.pad (Ow.pad1 _ _)) ⟨by rw [show ((Int32.ofNat cs.length)) = Int32.ofNat (cs).length from by simp]; exact Ow.nn (by first|omega|(simp;omega)|simp), by rw [show ((Int32.ofNat cs.length)) = Int32.ofNat (cs).length from by simp]; exact Ow.nlT (n := 6) (by first|omega|(simp;omega)|simp)⟩ ?_ (hlt := by simp) (hi := by rw [show ((Int32.ofNat cs.length)) = Int32.ofNat (cs).length from by simp]; exact Ow.nc (by first|omega|(simp;omega)|simp))
    intro h107 Kh107 V108
    have zh107 := Kh107.1
    rw [(hiN pp), Ow.CAs] at V108
    refine Ow.iload (pc' := 139) B e52_137 (Ow.iconst (pc' := 140) (x := 2) B e52_139 ?_)
    refine Ow.icmpT (pc' := 155) B e52_140 (by decide) ?_
    refine Ow.iloadN (pc' := 156) B e52_155 (Ow.iload (pc' := 158) B e52_156 ?_)
    refine Ow.iadd (pc' := 159) (z := (Int32.ofNat (cs.length + 1))) (hz := (Ow.nadd cs.length 1)) B e52_158 ?_
    have f109 := f102.keep Kh107 (Ow.ninS (by omega) Ow.nin0)
    have f110 := f103.keep Kh107 (Ow.ninS (by omega) Ow.nin0)
    have f111 := f104.keep Kh107 (Ow.ninS (by omega) Ow.nin0) (Ow.ninS (by omega) Ow.nin0)
    exact Ow.retI (S' := [t97]) (t := .int) B e52_159 (⟨b96, t97, k98, [hi pp], (by simp), caCast V108 (by simp), (by simp), (((Keep.refl _ [tw, ex]).trans Kh94 (allS (Or.inl (by simp)) all0)).trans Kh107 (allS (Or.inl (by simp)) all0)), (by omega), (by omega), (by omega), f109, f110, f111.cast (by simp), rfl⟩)
   ·refine Ow.icmpT (pc' := 88) B e52_81 (feq e1).2 ?_
    refine Ow.iconst (pc' := 89) (x := 0) B e52_88 ?_
    refine Ow.istore (pc' := 91) (Ls' := #[vR tw, vR ex, vI (Int32.ofNat cs.length), vI kd, vI e', vI pp, vR sn, vR ca, vI 0, .unset]) B e52_89 ?_
    refine Ow.iload (pc' := 93) B e52_91 ?_
    by_cases e0 : e' = (0 : Int32)
    ·refine Ow.ifF (pc' := 96) B e52_93 (teq e0).2 ?_
     refine Ow.iconst (pc' := 97) (x := 0) B e52_96 ?_
     refine Ow.goto (pc' := 111) B e52_97 ?_
     refine Ow.istore (pc' := 113) (Ls' := #[vR tw, vR ex, vI (Int32.ofNat cs.length), vI kd, vI e', vI pp, vR sn, vR ca, vI 0, vI 0]) B e52_111 ?_
     refine Ow.aloadN (pc' := 114) B e52_113 (Ow.aload (pc' := 116) B e52_114 (Ow.iload (pc' := 118) B e52_116 (Ow.iload (pc' := 120) B e52_118 ?_)))
     refine Ow.Go.old (fun o112 => ?_)
     refine Ow.callVirtual (pc' := 123) (W := 0) (k' := 3) (n' := 52) (argsL := [(.ref ca), (.int 0), (.int 0)]) (rest := []) (K := "com/example/ply3/ply3/TextWriter") B e52_120 (w80 hw) (w81 hw) (w83 hw) (w83 hw) (w82 hw) (w31 hw) (w84 hw) E (gWaB00 hw G GS GI (pp := pp) o112 E (by omega) X1 X2 FW (by omega) (by omega) (by first|omega|(simp;omega)|simp) CAr (by omega)) pd24 ?_
     intro vq113 h114 S115 q113 zh114
     obtain ⟨b116, t117, k118, rfl, Kh114, f119, f120, f121, f122, f123, f124, rfl⟩ := q113
     have lb116 : (b116 : Nat) < h114.size := f124.lt
     have lt117 : (t117 : Nat) < h114.size := f124.ltt
     refine Ow.Go.norm (S' := [t117]) (st' := []) (fun _ q => q) rfl ?_
     refine Ow.iload (pc' := 125) B e52_123 (Ow.iconst (pc' := 126) (x := 1) B e52_125 ?_)
     refine Ow.icmpT (pc' := 137) B e52_126 (by decide) ?_
     refine Ow.iload (pc' := 139) B e52_137 (Ow.iconst (pc' := 140) (x := 2) B e52_139 ?_)
     refine Ow.icmpT (pc' := 155) B e52_140 (by decide) ?_
     refine Ow.iloadN (pc' := 156) B e52_155 (Ow.iload (pc' := 158) B e52_156 ?_)
     refine Ow.iadd (pc' := 159) (z := (Int32.ofNat (cs.length + 0))) (hz := (Ow.nadd cs.length 0)) B e52_158 ?_
     have f125 := XA.keep Kh114 (Ow.ninS (by omega) Ow.nin0)
     exact Ow.retI (S' := [t117]) (t := .int) B e52_159 (⟨b116, t117, k118, [], (by simp), caCast f125 (by simp), (by simp), ((Keep.refl _ [tw, ex]).trans Kh114 (allS (Or.inl (by simp)) all0)), (by omega), (by omega), (by omega), f122, f123, f124.cast (by simp), rfl⟩)
    ·refine Ow.ifT (pc' := 100) B e52_93 (feq e0).2 ?_
     refine Ow.iload (pc' := 102) B e52_100 (Ow.iconst (pc' := 103) (x := 2) B e52_102 ?_)
     by_cases e2 : e' = (2 : Int32)
     ·refine Ow.icmpF (pc' := 106) B e52_103 (teq e2).2 ?_
      refine Ow.iconst (pc' := 107) (x := 2) B e52_106 ?_
      refine Ow.goto (pc' := 111) B e52_107 ?_
      refine Ow.istore (pc' := 113) (Ls' := #[vR tw, vR ex, vI (Int32.ofNat cs.length), vI kd, vI e', vI pp, vR sn, vR ca, vI 0, vI 2]) B e52_111 ?_
      refine Ow.aloadN (pc' := 114) B e52_113 (Ow.aload (pc' := 116) B e52_114 (Ow.iload (pc' := 118) B e52_116 (Ow.iload (pc' := 120) B e52_118 ?_)))
      refine Ow.Go.old (fun o126 => ?_)
      refine Ow.callVirtual (pc' := 123) (W := 0) (k' := 4) (n' := 84) (argsL := [(.ref ca), (.int 0), (.int 2)]) (rest := []) (K := "com/example/ply3/ply3/TextWriter") B e52_120 (w80 hw) (w81 hw) (w83 hw) (w83 hw) (w82 hw) (w31 hw) (w84 hw) E (gWaB02 hw G GS GI (pp := pp) o126 E (by omega) X1 X2 FW (by omega) (by omega) (by first|omega|(simp;omega)|simp) CAr (by omega)) pd24 ?_
      intro vq127 h128 S129 q127 zh128
      obtain ⟨b130, t131, k132, rfl, Kh128, f133, f134, f135, f136, f137, f138, rfl⟩ := q127
      have lb130 : (b130 : Nat) < h128.size := f138.lt
      have lt131 : (t131 : Nat) < h128.size := f138.ltt
      refine Ow.Go.norm (S' := [t131]) (st' := []) (fun _ q => q) rfl ?_
      refine Ow.iload (pc' := 125) B e52_123 (Ow.iconst (pc' := 126) (x := 1) B e52_125 ?_)
      refine Ow.icmpF (pc' := 129) B e52_126 (by decide) ?_
      refine Ow.aloadN (pc' := 130) B e52_129 (Ow.iloadN (pc' := 131) B e52_130 (Ow.aload (pc' := 133) B e52_131 (Ow.iload (pc' := 135) B e52_133 ?_)))
      have f139 := CAr.keep Kh128 (Ow.ninS (by omega) Ow.nin0)
      refine Ow.caload (pc' := 136) B e52_135 f139 ⟨by decide, by decide⟩ rfl ?_
      have f140 := XA.keep Kh128 (Ow.ninS (by omega) Ow.nin0)
      refine Ow.castore (pc' := 137) (i := (cs).length) B e52_136 (f140.pad (Ow.pad1 _ _)) ⟨by rw [show ((Int32.ofNat cs.length)) = Int32.ofNat (cs).length from by simp]; exact Ow.nn (by first|omega|(simp;omega)|simp), by rw [show ((Int32.ofNat cs.length)) = Int32.ofNat (cs).length from by simp]; exact Ow.nlT (n := 6) (by first|omega|(simp;omega)|simp)⟩ ?_ (hlt := by simp) (hi := by rw [show ((Int32.ofNat cs.length)) = Int32.ofNat (cs).length from by simp]; exact Ow.nc (by first|omega|(simp;omega)|simp))
      intro h141 Kh141 V142
      have zh141 := Kh141.1
      rw [(loN pp), Ow.CAs] at V142
      refine Ow.iload (pc' := 139) B e52_137 (Ow.iconst (pc' := 140) (x := 2) B e52_139 ?_)
      refine Ow.icmpF (pc' := 143) B e52_140 (by decide) ?_
      refine Ow.aloadN (pc' := 144) B e52_143 (Ow.iloadN (pc' := 145) B e52_144 (Ow.iconst (pc' := 146) (x := 1) B e52_145 ?_))
      refine Ow.iadd (pc' := 147) (z := (Int32.ofNat (cs.length + 1))) (hz := (Ow.nadd cs.length 1)) B e52_146 ?_
      refine Ow.aload (pc' := 149) B e52_147 (Ow.iload (pc' := 151) B e52_149 (Ow.iconst (pc' := 152) (x := 1) B e52_151 ?_))
      refine Ow.iadd (pc' := 153) (z := 1) B e52_152 ?_
      have f143 := f139.keep Kh141 (Ow.ninS (by omega) Ow.nin0)
      refine Ow.caload (pc' := 154) B e52_153 f143 ⟨by decide, by decide⟩ rfl ?_
      refine Ow.castore (pc' := 155) (i := (cs ++ [(lo pp)]).length) B e52_154 (V142.pad (Ow.pad1 _ _)) ⟨by rw [show ((Int32.ofNat (cs.length + 1))) = Int32.ofNat (cs ++ [(lo pp)]).length from by simp]; exact Ow.nn (by first|omega|(simp;omega)|simp), by rw [show ((Int32.ofNat (cs.length + 1))) = Int32.ofNat (cs ++ [(lo pp)]).length from by simp]; exact Ow.nlT (n := 6) (by first|omega|(simp;omega)|simp)⟩ ?_ (hlt := by simp) (hi := by rw [show ((Int32.ofNat (cs.length + 1))) = Int32.ofNat (cs ++ [(lo pp)]).length from by simp]; exact Ow.nc (by first|omega|(simp;omega)|simp))
      intro h144 Kh144 V145
      have zh144 := Kh144.1
      rw [(hiN pp), Ow.CAs] at V145
      refine Ow.iloadN (pc' := 156) B e52_155 (Ow.iload (pc' := 158) B e52_156 ?_)
      refine Ow.iadd (pc' := 159) (z := (Int32.ofNat (cs.length + 2))) (hz := (Ow.nadd cs.length 2)) B e52_158 ?_
      have f146 := f136.keep Kh141 (Ow.ninS (by omega) Ow.nin0)
      have f147 := f146.keep Kh144 (Ow.ninS (by omega) Ow.nin0)
      have f148 := f137.keep Kh141 (Ow.ninS (by omega) Ow.nin0)
      have f149 := f148.keep Kh144 (Ow.ninS (by omega) Ow.nin0)
      have f150 := f138.keep Kh141 (Ow.ninS (by omega) Ow.nin0) (Ow.ninS (by omega) Ow.nin0)
      have f151 := f150.keep Kh144 (Ow.ninS (by omega) Ow.nin0) (Ow.ninS (by omega) Ow.nin0)
      exact Ow.retI (S' := [t131]) (t := .int) B e52_159 (⟨b130, t131, k132, [lo pp, hi pp], (by simp), caCast V145 (by simp), (by simp), ((((Keep.refl _ [tw, ex]).trans Kh128 (allS (Or.inl (by simp)) all0)).trans Kh141 (allS (Or.inl (by simp)) all0)).trans Kh144 (allS (Or.inl (by simp)) all0)), (by omega), (by omega), (by omega), f147, f149, f151.cast (by simp), rfl⟩)
     ·refine Ow.icmpT (pc' := 110) B e52_103 (feq e2).2 ?_
      refine Ow.iconst (pc' := 111) (x := 1) B e52_110 ?_
      refine Ow.istore (pc' := 113) (Ls' := #[vR tw, vR ex, vI (Int32.ofNat cs.length), vI kd, vI e', vI pp, vR sn, vR ca, vI 0, vI 1]) B e52_111 ?_
      refine Ow.aloadN (pc' := 114) B e52_113 (Ow.aload (pc' := 116) B e52_114 (Ow.iload (pc' := 118) B e52_116 (Ow.iload (pc' := 120) B e52_118 ?_)))
      refine Ow.Go.old (fun o152 => ?_)
      refine Ow.callVirtual (pc' := 123) (W := 0) (k' := 4) (n' := 84) (argsL := [(.ref ca), (.int 0), (.int 1)]) (rest := []) (K := "com/example/ply3/ply3/TextWriter") B e52_120 (w80 hw) (w81 hw) (w83 hw) (w83 hw) (w82 hw) (w31 hw) (w84 hw) E (gWaB01 hw G GS GI (pp := pp) o152 E (by omega) X1 X2 FW (by omega) (by omega) (by first|omega|(simp;omega)|simp) CAr (by omega)) pd24 ?_
      intro vq153 h154 S155 q153 zh154
      obtain ⟨b156, t157, k158, rfl, Kh154, f159, f160, f161, f162, f163, f164, rfl⟩ := q153
      have lb156 : (b156 : Nat) < h154.size := f164.lt
      have lt157 : (t157 : Nat) < h154.size := f164.ltt
      refine Ow.Go.norm (S' := [t157]) (st' := []) (fun _ q => q) rfl ?_
      refine Ow.iload (pc' := 125) B e52_123 (Ow.iconst (pc' := 126) (x := 1) B e52_125 ?_)
      refine Ow.icmpF (pc' := 129) B e52_126 (by decide) ?_
      refine Ow.aloadN (pc' := 130) B e52_129 (Ow.iloadN (pc' := 131) B e52_130 (Ow.aload (pc' := 133) B e52_131 (Ow.iload (pc' := 135) B e52_133 ?_)))
      have f165 := CAr.keep Kh154 (Ow.ninS (by omega) Ow.nin0)
      refine Ow.caload (pc' := 136) B e52_135 f165 ⟨by decide, by decide⟩ rfl ?_
      have f166 := XA.keep Kh154 (Ow.ninS (by omega) Ow.nin0)
      refine Ow.castore (pc' := 137) (i := (cs).length) B e52_136 (f166.pad (Ow.pad1 _ _)) ⟨by rw [show ((Int32.ofNat cs.length)) = Int32.ofNat (cs).length from by simp]; exact Ow.nn (by first|omega|(simp;omega)|simp), by rw [show ((Int32.ofNat cs.length)) = Int32.ofNat (cs).length from by simp]; exact Ow.nlT (n := 6) (by first|omega|(simp;omega)|simp)⟩ ?_ (hlt := by simp) (hi := by rw [show ((Int32.ofNat cs.length)) = Int32.ofNat (cs).length from by simp]; exact Ow.nc (by first|omega|(simp;omega)|simp))
      intro h167 Kh167 V168
      have zh167 := Kh167.1
      rw [(loN pp), Ow.CAs] at V168
      refine Ow.iload (pc' := 139) B e52_137 (Ow.iconst (pc' := 140) (x := 2) B e52_139 ?_)
      refine Ow.icmpT (pc' := 155) B e52_140 (by decide) ?_
      refine Ow.iloadN (pc' := 156) B e52_155 (Ow.iload (pc' := 158) B e52_156 ?_)
      refine Ow.iadd (pc' := 159) (z := (Int32.ofNat (cs.length + 1))) (hz := (Ow.nadd cs.length 1)) B e52_158 ?_
      have f169 := f162.keep Kh167 (Ow.ninS (by omega) Ow.nin0)
      have f170 := f163.keep Kh167 (Ow.ninS (by omega) Ow.nin0)
      have f171 := f164.keep Kh167 (Ow.ninS (by omega) Ow.nin0) (Ow.ninS (by omega) Ow.nin0)
      exact Ow.retI (S' := [t157]) (t := .int) B e52_159 (⟨b156, t157, k158, [lo pp], (by simp), caCast V168 (by simp), (by simp), (((Keep.refl _ [tw, ex]).trans Kh154 (allS (Or.inl (by simp)) all0)).trans Kh167 (allS (Or.inl (by simp)) all0)), (by omega), (by omega), (by omega), f169, f170, f171.cast (by simp), rfl⟩)
theorem gStC (hw : Hw a0 Z) (G : Ow.Glo Z cz sf) (GS : GlS Z) {iof : Value} (GI : Sta Z Z.heap "jdk/internal/util/Preconditions" "IOOBE_FORMATTER" "Ljava/util/function/BiFunction;" iof ∧ iof.isRef = true) {h0 : Heap} (O0 : Old Z n0 h0) {tw : Nat} (E : Exa Z h0 tw "com/example/ply3/ply3/TextWriter") (hw0 : n0 ≤ tw) {b vb : Nat} {kv : ClassId} {cs : List Int32} (X1 : Fld Z h0 tw "com/example/ply3/ply3/TextWriter" "text" "Ljava/lang/StringBuilder;" (.ref b)) (X2 : Fld Z h0 tw "com/example/ply3/ply3/TextWriter" "whole" "Ljava/lang/String;" .null) (F : Sbd Z h0 b vb kv cs) (hwb : tw < b) (hwv : tw < vb) (hne : b ≠ vb) (hc : cs.length + 2 ≤ 16) {ex : Nat} {kx : ClassId} (XA : Arv Z h0 ex kx .char 6 (Ow.CA cs) (.int 0)) (hex : ex < tw) (hex0 : n0 ≤ ex) (h4 : (cs).length ≤ 4) {sn t ca : Nat} {kt kc : ClassId} {ss : List Int32} {e' pp : Int32} (F2 : Ow.Chs Z h0 sn t kt ss) (hS : StrP pp e' ss) (hsn : sn < tw) (hst : t < tw) (CAr : Arv Z h0 ca kc .char 2 [(.int (lo pp)), (.int (hi pp))] (.int 0)) (hca : ca < tw) (hd1 : ex ≠ ca) (hd2 : sn ≠ ex) (hd3 : t ≠ ex) {kd : Int32} :
    Ow.Con l Z EL1 n0 my52 method_5_code 10 (Option.some Jvm.ClassFile.FieldType.int) [] ({ frames := 11, cells := 3, slots := 60, locals := 156 } : Room) #[(.ref tw), (.ref ex), (.int (Int32.ofNat cs.length)), (.int kd), (.int e'), (.int pp), (.ref sn), (.ref ca)] [vb] h0 (fun v h S' => ∃ b' : Nat, ∃ t' : Nat, ∃ kr : ClassId, ∃ ds : List Int32, ds.length ≤ 2 ∧ Arv Z h ex kx .char 6 (Ow.CA (cs ++ ds)) (.int 0) ∧ v = some (.int (Int32.ofNat (cs ++ ds).length)) ∧ Keep h0 h [tw, ex, b, vb] ∧ (b' = b ∨ h0.size ≤ b') ∧ (t' = vb ∨ h0.size ≤ t') ∧ b' ≠ t' ∧ Fld Z h tw "com/example/ply3/ply3/TextWriter" "text" "Ljava/lang/StringBuilder;" (.ref b') ∧ Fld Z h tw "com/example/ply3/ply3/TextWriter" "whole" "Ljava/lang/String;" .null ∧ Sbd Z h b' t' kr (cs ++ ds) ∧ S' = [t']) := by
 refine Ow.Con.enter (Ls := #[vR tw, vR ex, vI (Int32.ofNat cs.length), vI kd, vI e', vI pp, vR sn, vR ca, .unset, .unset]) (plainFor_of_name pn8) O0 (hEW hw) (hSA hw) ?_
 intro p e s m below meth c B
 have z0 := Ow.old_le O0
 have ltw : (tw : Nat) < h0.size := E.lt
 have lb : (b : Nat) < h0.size := F.lt
 have lvb : (vb : Nat) < h0.size := F.ltt
 have lsn : (sn : Nat) < h0.size := F2.lt
 have lts : (t : Nat) < h0.size := F2.ltt
 have lca : (ca : Nat) < h0.size := CAr.lt
 have lex : (ex : Nat) < h0.size := XA.lt
 have hcs : (cs).length ≤ 4 := h4
 refine Ow.iloadN (pc' := 1) B e52_0 (Ow.iconst (pc' := 2) (x := 1) B e52_1 ?_)
 by_cases k1 : kd = (1 : Int32)
 ·refine Ow.icmpF (pc' := 5) B e52_2 (teq k1).2 ?_
  refine Ow.aloadN (pc' := 6) B e52_5 (Ow.iload (pc' := 8) B e52_6 ?_)
  refine Ow.Go.old (fun o1 => ?_)
  refine Ow.callVirtual (pc' := 11) (W := 0) (k' := 1) (n' := 32) (argsL := [(.int pp)]) (rest := []) (K := "com/example/ply3/ply3/TextWriter") B e52_8 (w310 hw) (w311 hw) (w313 hw) (w313 hw) (w312 hw) (w31 hw) (w314 hw) E (gWiC hw G GS GI (pp := pp) o1 E (by omega) X1 X2 F (by omega) (by omega) (by omega) (by first|omega|(simp;omega)|simp)) pd20 ?_
  intro vq2 h3 S4 q2 zh3
  obtain ⟨b5, t6, k7, rfl, Kh3, f8, f9, f10, f11, f12, f13, rfl⟩ := q2
  have lb5 : (b5 : Nat) < h3.size := f13.lt
  have lt6 : (t6 : Nat) < h3.size := f13.ltt
  refine Ow.Go.norm (S' := [t6, vb]) (st' := []) (fun _ q => q) rfl ?_
  refine Ow.aloadN (pc' := 12) B e52_11 (Ow.iloadN (pc' := 13) B e52_12 (Ow.iload (pc' := 15) B e52_13 ?_))
  refine Ow.i2c (pc' := 16) (z := (lo pp)) B e52_15 ?_
  have f14 := XA.keep Kh3 (Ow.ninS (by omega) (Ow.ninS (by omega) (Ow.ninS (by omega) Ow.nin0)))
  refine Ow.castore (pc' := 17) (i := (cs).length) B e52_16 (f14.pad (Ow.pad1 _ _)) ⟨by rw [show ((Int32.ofNat cs.length)) = Int32.ofNat (cs).length from by simp]; exact Ow.nn (by first|omega|(simp;omega)|simp), by rw [show ((Int32.ofNat cs.length)) = Int32.ofNat (cs).length from by simp]; exact Ow.nlT (n := 6) (by first|omega|(simp;omega)|simp)⟩ ?_ (hlt := by simp) (hi := by rw [show ((Int32.ofNat cs.length)) = Int32.ofNat (cs).length from by simp]; exact Ow.nc (by first|omega|(simp;omega)|simp))
  intro h15 Kh15 V16
  have zh15 := Kh15.1
  rw [(loN pp), Ow.CAs] at V16
  refine Ow.iloadN (pc' := 18) B e52_17 (Ow.iconst (pc' := 19) (x := 1) B e52_18 ?_)
  refine Ow.iadd (pc' := 20) (z := (Int32.ofNat (cs.length + 1))) (hz := (Ow.nadd cs.length 1)) B e52_19 ?_
  have f17 := f11.keep Kh15 (Ow.ninS (by omega) Ow.nin0)
  have f18 := f12.keep Kh15 (Ow.ninS (by omega) Ow.nin0)
  have f19 := f13.keep Kh15 (Ow.ninS (by omega) Ow.nin0) (Ow.ninS (by omega) Ow.nin0)
  exact Ow.retI (S' := [t6]) (t := .int) B e52_20 (⟨b5, t6, k7, [lo pp], (by simp), caCast V16 (by simp), (by simp), (((Keep.refl _ [tw, ex, b, vb]).trans Kh3 (allS (Or.inl (by simp)) (allS (Or.inl (by simp)) (allS (Or.inl (by simp)) all0)))).trans Kh15 (allS (Or.inl (by simp)) all0)), (by omega), (by omega), (by omega), f17, f18, f19.cast (by simp), rfl⟩)
 ·refine Ow.icmpT (pc' := 21) B e52_2 (feq k1).2 ?_
  refine Ow.iloadN (pc' := 22) B e52_21 (Ow.iconst (pc' := 23) (x := 2) B e52_22 ?_)
  by_cases k2 : kd = (2 : Int32)
  ·refine Ow.icmpF (pc' := 26) B e52_23 (teq k2).2 ?_
   rcases hS with ⟨he, rfl⟩ | ⟨he, rfl⟩ | rfl
   ·refine Ow.aloadN (pc' := 27) B e52_26 (Ow.aload (pc' := 29) B e52_27 ?_)
    refine Ow.Go.old (fun o20 => ?_)
    refine Ow.callVirtual (pc' := 32) (W := 0) (k' := 3) (n' := 60) (argsL := [(.ref sn)]) (rest := []) (K := "com/example/ply3/ply3/TextWriter") B e52_29 (w227 hw) (w228 hw) (w230 hw) (w230 hw) (w229 hw) (w31 hw) (w231 hw) E (gWsC hw G GS GI o20 E (by omega) X1 X2 F (by omega) (by omega) (by omega) (by first|omega|(simp;omega)|simp) F2 (by omega) (by omega) (by first|omega|(simp;omega)|simp)) pd26 ?_
    intro vq21 h22 S23 q21 zh22
    obtain ⟨b24, t25, k26, rfl, Kh22, f27, f28, f29, f30, f31, f32, rfl⟩ := q21
    have lb24 : (b24 : Nat) < h22.size := f32.lt
    have lt25 : (t25 : Nat) < h22.size := f32.ltt
    refine Ow.Go.norm (S' := [t25, vb]) (st' := []) (fun _ q => q) rfl ?_
    refine Ow.aload (pc' := 34) B e52_32 ?_
    have f33 := F2.keep Kh22 (Ow.ninS (by omega) (Ow.ninS (by omega) (Ow.ninS (by omega) Ow.nin0))) (Ow.ninS (by omega) (Ow.ninS (by omega) (Ow.ninS (by omega) Ow.nin0)))
    refine Ow.Go.old (fun o34 => ?_)
    refine Ow.callVirtual (pc' := 37) (W := 0) (k' := 3) (n' := 60) (argsL := []) (rest := []) (K := "java/lang/String") B e52_34 (w56 hw) (w57 hw) (w59 hw) (w59 hw) (w58 hw) (w6 hw) (w60 hw) (f33).1 (gLen hw G GS GI o34 f33 (by first|omega|(simp;omega)|simp)) pd28 ?_
    intro vq35 h36 S37 q35 zh36
    obtain ⟨rfl, rfl, rfl⟩ := q35
    refine Ow.Go.nr (S' := [t25, vb]) (st' := [(.int 0)]) ?_
    refine Ow.istore (pc' := 39) (Ls' := #[vR tw, vR ex, vI (Int32.ofNat cs.length), vI kd, vI e', vI pp, vR sn, vR ca, vI 0, .unset]) B e52_37 ?_
    refine Ow.iload (pc' := 41) B e52_39 (Ow.iconst (pc' := 42) (x := 1) B e52_41 ?_)
    refine Ow.icmpT (pc' := 51) B e52_42 (by decide) ?_
    refine Ow.iload (pc' := 53) B e52_51 (Ow.iconst (pc' := 54) (x := 2) B e52_53 ?_)
    refine Ow.icmpT (pc' := 68) B e52_54 (by decide) ?_
    refine Ow.iloadN (pc' := 69) B e52_68 (Ow.iload (pc' := 71) B e52_69 ?_)
    refine Ow.iadd (pc' := 72) (z := (Int32.ofNat (cs.length + 0))) (hz := (Ow.nadd cs.length 0)) B e52_71 ?_
    have f38 := XA.keep Kh22 (Ow.ninS (by omega) (Ow.ninS (by omega) (Ow.ninS (by omega) Ow.nin0)))
    exact Ow.retI (S' := [t25]) (t := .int) B e52_72 (⟨b24, t25, k26, [], (by simp), caCast f38 (by simp), (by simp), ((Keep.refl _ [tw, ex, b, vb]).trans Kh22 (allS (Or.inl (by simp)) (allS (Or.inl (by simp)) (allS (Or.inl (by simp)) all0)))), (by omega), (by omega), (by omega), f30, f31, f32.cast (by simp), rfl⟩)
   ·refine Ow.aloadN (pc' := 27) B e52_26 (Ow.aload (pc' := 29) B e52_27 ?_)
    refine Ow.Go.old (fun o39 => ?_)
    refine Ow.callVirtual (pc' := 32) (W := 0) (k' := 3) (n' := 60) (argsL := [(.ref sn)]) (rest := []) (K := "com/example/ply3/ply3/TextWriter") B e52_29 (w227 hw) (w228 hw) (w230 hw) (w230 hw) (w229 hw) (w31 hw) (w231 hw) E (gWsC hw G GS GI o39 E (by omega) X1 X2 F (by omega) (by omega) (by omega) (by first|omega|(simp;omega)|simp) F2 (by omega) (by omega) (by first|omega|(simp;omega)|simp)) pd26 ?_
    intro vq40 h41 S42 q40 zh41
    obtain ⟨b43, t44, k45, rfl, Kh41, f46, f47, f48, f49, f50, f51, rfl⟩ := q40
    have lb43 : (b43 : Nat) < h41.size := f51.lt
    have lt44 : (t44 : Nat) < h41.size := f51.ltt
    refine Ow.Go.norm (S' := [t44, vb]) (st' := []) (fun _ q => q) rfl ?_
    refine Ow.aload (pc' := 34) B e52_32 ?_
    have f52 := F2.keep Kh41 (Ow.ninS (by omega) (Ow.ninS (by omega) (Ow.ninS (by omega) Ow.nin0))) (Ow.ninS (by omega) (Ow.ninS (by omega) (Ow.ninS (by omega) Ow.nin0)))
    refine Ow.Go.old (fun o53 => ?_)
    refine Ow.callVirtual (pc' := 37) (W := 0) (k' := 3) (n' := 60) (argsL := []) (rest := []) (K := "java/lang/String") B e52_34 (w56 hw) (w57 hw) (w59 hw) (w59 hw) (w58 hw) (w6 hw) (w60 hw) (f52).1 (gLen hw G GS GI o53 f52 (by first|omega|(simp;omega)|simp)) pd28 ?_
    intro vq54 h55 S56 q54 zh55
    obtain ⟨rfl, rfl, rfl⟩ := q54
    refine Ow.Go.nr (S' := [t44, vb]) (st' := [(.int 1)]) ?_
    refine Ow.istore (pc' := 39) (Ls' := #[vR tw, vR ex, vI (Int32.ofNat cs.length), vI kd, vI e', vI pp, vR sn, vR ca, vI 1, .unset]) B e52_37 ?_
    refine Ow.iload (pc' := 41) B e52_39 (Ow.iconst (pc' := 42) (x := 1) B e52_41 ?_)
    refine Ow.icmpF (pc' := 45) B e52_42 (by decide) ?_
    refine Ow.aloadN (pc' := 46) B e52_45 (Ow.iloadN (pc' := 47) B e52_46 (Ow.iload (pc' := 49) B e52_47 ?_))
    refine Ow.i2c (pc' := 50) (z := (lo pp)) B e52_49 ?_
    have f57 := XA.keep Kh41 (Ow.ninS (by omega) (Ow.ninS (by omega) (Ow.ninS (by omega) Ow.nin0)))
    refine Ow.castore (pc' := 51) (i := (cs).length) B e52_50 (f57.pad (Ow.pad1 _ _)) ⟨by rw [show ((Int32.ofNat cs.length)) = Int32.ofNat (cs).length from by simp]; exact Ow.nn (by first|omega|(simp;omega)|simp), by rw [show ((Int32.ofNat cs.length)) = Int32.ofNat (cs).length from by simp]; exact Ow.nlT (n := 6) (by first|omega|(simp;omega)|simp)⟩ ?_ (hlt := by simp) (hi := by rw [show ((Int32.ofNat cs.length)) = Int32.ofNat (cs).length from by simp]; exact Ow.nc (by first|omega|(simp;omega)|simp))
    intro h58 Kh58 V59
    have zh58 := Kh58.1
    rw [(loN pp), Ow.CAs] at V59
    refine Ow.iload (pc' := 53) B e52_51 (Ow.iconst (pc' := 54) (x := 2) B e52_53 ?_)
    refine Ow.icmpT (pc' := 68) B e52_54 (by decide) ?_
    refine Ow.iloadN (pc' := 69) B e52_68 (Ow.iload (pc' := 71) B e52_69 ?_)
    refine Ow.iadd (pc' := 72) (z := (Int32.ofNat (cs.length + 1))) (hz := (Ow.nadd cs.length 1)) B e52_71 ?_
    have f60 := f49.keep Kh58 (Ow.ninS (by omega) Ow.nin0)
    have f61 := f50.keep Kh58 (Ow.ninS (by omega) Ow.nin0)
    have f62 := f51.keep Kh58 (Ow.ninS (by omega) Ow.nin0) (Ow.ninS (by omega) Ow.nin0)
    exact Ow.retI (S' := [t44]) (t := .int) B e52_72 (⟨b43, t44, k45, [lo pp], (by simp), caCast V59 (by simp), (by simp), (((Keep.refl _ [tw, ex, b, vb]).trans Kh41 (allS (Or.inl (by simp)) (allS (Or.inl (by simp)) (allS (Or.inl (by simp)) all0)))).trans Kh58 (allS (Or.inl (by simp)) all0)), (by omega), (by omega), (by omega), f60, f61, f62.cast (by simp), rfl⟩)
   ·refine Ow.aloadN (pc' := 27) B e52_26 (Ow.aload (pc' := 29) B e52_27 ?_)
    refine Ow.Go.old (fun o63 => ?_)
    refine Ow.callVirtual (pc' := 32) (W := 0) (k' := 3) (n' := 60) (argsL := [(.ref sn)]) (rest := []) (K := "com/example/ply3/ply3/TextWriter") B e52_29 (w227 hw) (w228 hw) (w230 hw) (w230 hw) (w229 hw) (w31 hw) (w231 hw) E (gWsC hw G GS GI o63 E (by omega) X1 X2 F (by omega) (by omega) (by omega) (by first|omega|(simp;omega)|simp) F2 (by omega) (by omega) (by first|omega|(simp;omega)|simp)) pd26 ?_
    intro vq64 h65 S66 q64 zh65
    obtain ⟨b67, t68, k69, rfl, Kh65, f70, f71, f72, f73, f74, f75, rfl⟩ := q64
    have lb67 : (b67 : Nat) < h65.size := f75.lt
    have lt68 : (t68 : Nat) < h65.size := f75.ltt
    refine Ow.Go.norm (S' := [t68, vb]) (st' := []) (fun _ q => q) rfl ?_
    refine Ow.aload (pc' := 34) B e52_32 ?_
    have f76 := F2.keep Kh65 (Ow.ninS (by omega) (Ow.ninS (by omega) (Ow.ninS (by omega) Ow.nin0))) (Ow.ninS (by omega) (Ow.ninS (by omega) (Ow.ninS (by omega) Ow.nin0)))
    refine Ow.Go.old (fun o77 => ?_)
    refine Ow.callVirtual (pc' := 37) (W := 0) (k' := 3) (n' := 60) (argsL := []) (rest := []) (K := "java/lang/String") B e52_34 (w56 hw) (w57 hw) (w59 hw) (w59 hw) (w58 hw) (w6 hw) (w60 hw) (f76).1 (gLen hw G GS GI o77 f76 (by first|omega|(simp;omega)|simp)) pd28 ?_
    intro vq78 h79 S80 q78 zh79
    obtain ⟨rfl, rfl, rfl⟩ := q78
    refine Ow.Go.nr (S' := [t68, vb]) (st' := [(.int 2)]) ?_
    refine Ow.istore (pc' := 39) (Ls' := #[vR tw, vR ex, vI (Int32.ofNat cs.length), vI kd, vI e', vI pp, vR sn, vR ca, vI 2, .unset]) B e52_37 ?_
    refine Ow.iload (pc' := 41) B e52_39 (Ow.iconst (pc' := 42) (x := 1) B e52_41 ?_)
    refine Ow.icmpF (pc' := 45) B e52_42 (by decide) ?_
    refine Ow.aloadN (pc' := 46) B e52_45 (Ow.iloadN (pc' := 47) B e52_46 (Ow.iload (pc' := 49) B e52_47 ?_))
    refine Ow.i2c (pc' := 50) (z := (lo pp)) B e52_49 ?_
    have f81 := XA.keep Kh65 (Ow.ninS (by omega) (Ow.ninS (by omega) (Ow.ninS (by omega) Ow.nin0)))
    refine Ow.castore (pc' := 51) (i := (cs).length) B e52_50 (f81.pad (Ow.pad1 _ _)) ⟨by rw [show ((Int32.ofNat cs.length)) = Int32.ofNat (cs).length from by simp]; exact Ow.nn (by first|omega|(simp;omega)|simp), by rw [show ((Int32.ofNat cs.length)) = Int32.ofNat (cs).length from by simp]; exact Ow.nlT (n := 6) (by first|omega|(simp;omega)|simp)⟩ ?_ (hlt := by simp) (hi := by rw [show ((Int32.ofNat cs.length)) = Int32.ofNat (cs).length from by simp]; exact Ow.nc (by first|omega|(simp;omega)|simp))
    intro h82 Kh82 V83
    have zh82 := Kh82.1
    rw [(loN pp), Ow.CAs] at V83
    refine Ow.iload (pc' := 53) B e52_51 (Ow.iconst (pc' := 54) (x := 2) B e52_53 ?_)
    refine Ow.icmpF (pc' := 57) B e52_54 (by decide) ?_
    refine Ow.aloadN (pc' := 58) B e52_57 (Ow.iloadN (pc' := 59) B e52_58 (Ow.iconst (pc' := 60) (x := 1) B e52_59 ?_))
    refine Ow.iadd (pc' := 61) (z := (Int32.ofNat (cs.length + 1))) (hz := (Ow.nadd cs.length 1)) B e52_60 ?_
    refine Ow.iload (pc' := 63) B e52_61 (Ow.bipush (pc' := 65) (x := 16) B e52_63 ?_)
    refine Ow.iushr (pc' := 66) (z := (Jvm.Free.XT.ushr pp (16 : Int32))) B e52_65 ?_
    refine Ow.i2c (pc' := 67) (z := (hi pp)) B e52_66 ?_
    refine Ow.castore (pc' := 68) (i := (cs ++ [(lo pp)]).length) B e52_67 (V83.pad (Ow.pad1 _ _)) ⟨by rw [show ((Int32.ofNat (cs.length + 1))) = Int32.ofNat (cs ++ [(lo pp)]).length from by simp]; exact Ow.nn (by first|omega|(simp;omega)|simp), by rw [show ((Int32.ofNat (cs.length + 1))) = Int32.ofNat (cs ++ [(lo pp)]).length from by simp]; exact Ow.nlT (n := 6) (by first|omega|(simp;omega)|simp)⟩ ?_ (hlt := by simp) (hi := by rw [show ((Int32.ofNat (cs.length + 1))) = Int32.ofNat (cs ++ [(lo pp)]).length from by simp]; exact Ow.nc (by first|omega|(simp;omega)|simp))
    intro h84 Kh84 V85
    have zh84 := Kh84.1
    rw [(hiN pp), Ow.CAs] at V85
    refine Ow.iloadN (pc' := 69) B e52_68 (Ow.iload (pc' := 71) B e52_69 ?_)
    refine Ow.iadd (pc' := 72) (z := (Int32.ofNat (cs.length + 2))) (hz := (Ow.nadd cs.length 2)) B e52_71 ?_
    have f86 := f73.keep Kh82 (Ow.ninS (by omega) Ow.nin0)
    have f87 := f86.keep Kh84 (Ow.ninS (by omega) Ow.nin0)
    have f88 := f74.keep Kh82 (Ow.ninS (by omega) Ow.nin0)
    have f89 := f88.keep Kh84 (Ow.ninS (by omega) Ow.nin0)
    have f90 := f75.keep Kh82 (Ow.ninS (by omega) Ow.nin0) (Ow.ninS (by omega) Ow.nin0)
    have f91 := f90.keep Kh84 (Ow.ninS (by omega) Ow.nin0) (Ow.ninS (by omega) Ow.nin0)
    exact Ow.retI (S' := [t68]) (t := .int) B e52_72 (⟨b67, t68, k69, [lo pp, hi pp], (by simp), caCast V85 (by simp), (by simp), ((((Keep.refl _ [tw, ex, b, vb]).trans Kh65 (allS (Or.inl (by simp)) (allS (Or.inl (by simp)) (allS (Or.inl (by simp)) all0)))).trans Kh82 (allS (Or.inl (by simp)) all0)).trans Kh84 (allS (Or.inl (by simp)) all0)), (by omega), (by omega), (by omega), f87, f89, f91.cast (by simp), rfl⟩)
  ·refine Ow.icmpT (pc' := 73) B e52_23 (feq k2).2 ?_
   refine Ow.iloadN (pc' := 74) B e52_73 (Ow.iconst (pc' := 75) (x := 3) B e52_74 ?_)
   by_cases k3 : kd = (3 : Int32)
   ·refine Ow.icmpF (pc' := 78) B e52_75 (teq k3).2 ?_
    refine Ow.iload (pc' := 80) B e52_78 (Ow.iconst (pc' := 81) (x := 1) B e52_80 ?_)
    by_cases e1 : e' = (1 : Int32)
    ·refine Ow.icmpF (pc' := 84) B e52_81 (teq e1).2 ?_
     refine Ow.iconst (pc' := 85) (x := 1) B e52_84 ?_
     refine Ow.goto (pc' := 89) B e52_85 ?_
     refine Ow.istore (pc' := 91) (Ls' := #[vR tw, vR ex, vI (Int32.ofNat cs.length), vI kd, vI e', vI pp, vR sn, vR ca, vI 1, .unset]) B e52_89 ?_
     refine Ow.iload (pc' := 93) B e52_91 ?_
     refine Ow.ifT (pc' := 100) B e52_93 (feq (fun q => absurd (q.symm.trans e1) (by decide))).2 ?_
     refine Ow.iload (pc' := 102) B e52_100 (Ow.iconst (pc' := 103) (x := 2) B e52_102 ?_)
     refine Ow.icmpT (pc' := 110) B e52_103 (feq (fun q => absurd (q.symm.trans e1) (by decide))).2 ?_
     refine Ow.iconst (pc' := 111) (x := 1) B e52_110 ?_
     refine Ow.istore (pc' := 113) (Ls' := #[vR tw, vR ex, vI (Int32.ofNat cs.length), vI kd, vI e', vI pp, vR sn, vR ca, vI 1, vI 1]) B e52_111 ?_
     refine Ow.aloadN (pc' := 114) B e52_113 (Ow.aload (pc' := 116) B e52_114 (Ow.iload (pc' := 118) B e52_116 (Ow.iload (pc' := 120) B e52_118 ?_)))
     refine Ow.Go.old (fun o92 => ?_)
     refine Ow.callVirtual (pc' := 123) (W := 0) (k' := 1) (n' := 32) (argsL := [(.ref ca), (.int 1), (.int 1)]) (rest := []) (K := "com/example/ply3/ply3/TextWriter") B e52_120 (w80 hw) (w81 hw) (w83 hw) (w83 hw) (w82 hw) (w31 hw) (w84 hw) E (gWaC12 hw G GS GI (pp := pp) o92 E (by omega) X1 X2 F (by omega) (by omega) (by omega) (by first|omega|(simp;omega)|simp) CAr (by omega)) pd24 ?_
     intro vq93 h94 S95 q93 zh94
     obtain ⟨b96, t97, k98, rfl, Kh94, f99, f100, f101, f102, f103, f104, rfl⟩ := q93
     have lb96 : (b96 : Nat) < h94.size := f104.lt
     have lt97 : (t97 : Nat) < h94.size := f104.ltt
     refine Ow.Go.norm (S' := [t97, vb]) (st' := []) (fun _ q => q) rfl ?_
     refine Ow.iload (pc' := 125) B e52_123 (Ow.iconst (pc' := 126) (x := 1) B e52_125 ?_)
     refine Ow.icmpF (pc' := 129) B e52_126 (by decide) ?_
     refine Ow.aloadN (pc' := 130) B e52_129 (Ow.iloadN (pc' := 131) B e52_130 (Ow.aload (pc' := 133) B e52_131 (Ow.iload (pc' := 135) B e52_133 ?_)))
     have f105 := CAr.keep Kh94 (Ow.ninS (by omega) (Ow.ninS (by omega) (Ow.ninS (by omega) Ow.nin0)))
     refine Ow.caload (pc' := 136) B e52_135 f105 ⟨by decide, by decide⟩ rfl ?_
     have f106 := XA.keep Kh94 (Ow.ninS (by omega) (Ow.ninS (by omega) (Ow.ninS (by omega) Ow.nin0)))
     refine Ow.castore (pc' := 137) (i := (cs).length) B e52_136 (f106.pad (Ow.pad1 _ _)) ⟨by rw [show ((Int32.ofNat cs.length)) = Int32.ofNat (cs).length from by simp]; exact Ow.nn (by first|omega|(simp;omega)|simp), by rw [show ((Int32.ofNat cs.length)) = Int32.ofNat (cs).length from by simp]; exact Ow.nlT (n := 6) (by first|omega|(simp;omega)|simp)⟩ ?_ (hlt := by simp) (hi := by rw [show ((Int32.ofNat cs.length)) = Int32.ofNat (cs).length from by simp]; exact Ow.nc (by first|omega|(simp;omega)|simp))
     intro h107 Kh107 V108
     have zh107 := Kh107.1
     rw [(hiN pp), Ow.CAs] at V108
     refine Ow.iload (pc' := 139) B e52_137 (Ow.iconst (pc' := 140) (x := 2) B e52_139 ?_)
     refine Ow.icmpT (pc' := 155) B e52_140 (by decide) ?_
     refine Ow.iloadN (pc' := 156) B e52_155 (Ow.iload (pc' := 158) B e52_156 ?_)
     refine Ow.iadd (pc' := 159) (z := (Int32.ofNat (cs.length + 1))) (hz := (Ow.nadd cs.length 1)) B e52_158 ?_
     have f109 := f102.keep Kh107 (Ow.ninS (by omega) Ow.nin0)
     have f110 := f103.keep Kh107 (Ow.ninS (by omega) Ow.nin0)
     have f111 := f104.keep Kh107 (Ow.ninS (by omega) Ow.nin0) (Ow.ninS (by omega) Ow.nin0)
     exact Ow.retI (S' := [t97]) (t := .int) B e52_159 (⟨b96, t97, k98, [hi pp], (by simp), caCast V108 (by simp), (by simp), (((Keep.refl _ [tw, ex, b, vb]).trans Kh94 (allS (Or.inl (by simp)) (allS (Or.inl (by simp)) (allS (Or.inl (by simp)) all0)))).trans Kh107 (allS (Or.inl (by simp)) all0)), (by omega), (by omega), (by omega), f109, f110, f111.cast (by simp), rfl⟩)
    ·refine Ow.icmpT (pc' := 88) B e52_81 (feq e1).2 ?_
     refine Ow.iconst (pc' := 89) (x := 0) B e52_88 ?_
     refine Ow.istore (pc' := 91) (Ls' := #[vR tw, vR ex, vI (Int32.ofNat cs.length), vI kd, vI e', vI pp, vR sn, vR ca, vI 0, .unset]) B e52_89 ?_
     refine Ow.iload (pc' := 93) B e52_91 ?_
     by_cases e0 : e' = (0 : Int32)
     ·refine Ow.ifF (pc' := 96) B e52_93 (teq e0).2 ?_
      refine Ow.iconst (pc' := 97) (x := 0) B e52_96 ?_
      refine Ow.goto (pc' := 111) B e52_97 ?_
      refine Ow.istore (pc' := 113) (Ls' := #[vR tw, vR ex, vI (Int32.ofNat cs.length), vI kd, vI e', vI pp, vR sn, vR ca, vI 0, vI 0]) B e52_111 ?_
      refine Ow.aloadN (pc' := 114) B e52_113 (Ow.aload (pc' := 116) B e52_114 (Ow.iload (pc' := 118) B e52_116 (Ow.iload (pc' := 120) B e52_118 ?_)))
      refine Ow.Go.old (fun o112 => ?_)
      refine Ow.callVirtual (pc' := 123) (W := 0) (k' := 0) (n' := 0) (argsL := [(.ref ca), (.int 0), (.int 0)]) (rest := []) (K := "com/example/ply3/ply3/TextWriter") B e52_120 (w80 hw) (w81 hw) (w83 hw) (w83 hw) (w82 hw) (w31 hw) (w84 hw) E (gWaC00 hw G GS GI (pp := pp) o112 E (by omega) X1 X2 F (by omega) (by omega) (by omega) (by first|omega|(simp;omega)|simp) CAr (by omega)) pd24 ?_
      intro vq113 h114 S115 q113 zh114
      obtain ⟨b116, t117, k118, rfl, Kh114, f119, f120, f121, f122, f123, f124, rfl⟩ := q113
      have lb116 : (b116 : Nat) < h114.size := f124.lt
      have lt117 : (t117 : Nat) < h114.size := f124.ltt
      refine Ow.Go.norm (S' := [t117, vb]) (st' := []) (fun _ q => q) rfl ?_
      refine Ow.iload (pc' := 125) B e52_123 (Ow.iconst (pc' := 126) (x := 1) B e52_125 ?_)
      refine Ow.icmpT (pc' := 137) B e52_126 (by decide) ?_
      refine Ow.iload (pc' := 139) B e52_137 (Ow.iconst (pc' := 140) (x := 2) B e52_139 ?_)
      refine Ow.icmpT (pc' := 155) B e52_140 (by decide) ?_
      refine Ow.iloadN (pc' := 156) B e52_155 (Ow.iload (pc' := 158) B e52_156 ?_)
      refine Ow.iadd (pc' := 159) (z := (Int32.ofNat (cs.length + 0))) (hz := (Ow.nadd cs.length 0)) B e52_158 ?_
      have f125 := XA.keep Kh114 (Ow.ninS (by omega) (Ow.ninS (by omega) (Ow.ninS (by omega) Ow.nin0)))
      exact Ow.retI (S' := [t117]) (t := .int) B e52_159 (⟨b116, t117, k118, [], (by simp), caCast f125 (by simp), (by simp), ((Keep.refl _ [tw, ex, b, vb]).trans Kh114 (allS (Or.inl (by simp)) (allS (Or.inl (by simp)) (allS (Or.inl (by simp)) all0)))), (by omega), (by omega), (by omega), f122, f123, f124.cast (by simp), rfl⟩)
     ·refine Ow.ifT (pc' := 100) B e52_93 (feq e0).2 ?_
      refine Ow.iload (pc' := 102) B e52_100 (Ow.iconst (pc' := 103) (x := 2) B e52_102 ?_)
      by_cases e2 : e' = (2 : Int32)
      ·refine Ow.icmpF (pc' := 106) B e52_103 (teq e2).2 ?_
       refine Ow.iconst (pc' := 107) (x := 2) B e52_106 ?_
       refine Ow.goto (pc' := 111) B e52_107 ?_
       refine Ow.istore (pc' := 113) (Ls' := #[vR tw, vR ex, vI (Int32.ofNat cs.length), vI kd, vI e', vI pp, vR sn, vR ca, vI 0, vI 2]) B e52_111 ?_
       refine Ow.aloadN (pc' := 114) B e52_113 (Ow.aload (pc' := 116) B e52_114 (Ow.iload (pc' := 118) B e52_116 (Ow.iload (pc' := 120) B e52_118 ?_)))
       refine Ow.Go.old (fun o126 => ?_)
       refine Ow.callVirtual (pc' := 123) (W := 0) (k' := 1) (n' := 32) (argsL := [(.ref ca), (.int 0), (.int 2)]) (rest := []) (K := "com/example/ply3/ply3/TextWriter") B e52_120 (w80 hw) (w81 hw) (w83 hw) (w83 hw) (w82 hw) (w31 hw) (w84 hw) E (gWaC02 hw G GS GI (pp := pp) o126 E (by omega) X1 X2 F (by omega) (by omega) (by omega) (by first|omega|(simp;omega)|simp) CAr (by omega)) pd24 ?_
       intro vq127 h128 S129 q127 zh128
       obtain ⟨b130, t131, k132, rfl, Kh128, f133, f134, f135, f136, f137, f138, rfl⟩ := q127
       have lb130 : (b130 : Nat) < h128.size := f138.lt
       have lt131 : (t131 : Nat) < h128.size := f138.ltt
       refine Ow.Go.norm (S' := [t131, vb]) (st' := []) (fun _ q => q) rfl ?_
       refine Ow.iload (pc' := 125) B e52_123 (Ow.iconst (pc' := 126) (x := 1) B e52_125 ?_)
       refine Ow.icmpF (pc' := 129) B e52_126 (by decide) ?_
       refine Ow.aloadN (pc' := 130) B e52_129 (Ow.iloadN (pc' := 131) B e52_130 (Ow.aload (pc' := 133) B e52_131 (Ow.iload (pc' := 135) B e52_133 ?_)))
       have f139 := CAr.keep Kh128 (Ow.ninS (by omega) (Ow.ninS (by omega) (Ow.ninS (by omega) Ow.nin0)))
       refine Ow.caload (pc' := 136) B e52_135 f139 ⟨by decide, by decide⟩ rfl ?_
       have f140 := XA.keep Kh128 (Ow.ninS (by omega) (Ow.ninS (by omega) (Ow.ninS (by omega) Ow.nin0)))
       refine Ow.castore (pc' := 137) (i := (cs).length) B e52_136 (f140.pad (Ow.pad1 _ _)) ⟨by rw [show ((Int32.ofNat cs.length)) = Int32.ofNat (cs).length from by simp]; exact Ow.nn (by first|omega|(simp;omega)|simp), by rw [show ((Int32.ofNat cs.length)) = Int32.ofNat (cs).length from by simp]; exact Ow.nlT (n := 6) (by first|omega|(simp;omega)|simp)⟩ ?_ (hlt := by simp) (hi := by rw [show ((Int32.ofNat cs.length)) = Int32.ofNat (cs).length from by simp]; exact Ow.nc (by first|omega|(simp;omega)|simp))
       intro h141 Kh141 V142
       have zh141 := Kh141.1
       rw [(loN pp), Ow.CAs] at V142
       refine Ow.iload (pc' := 139) B e52_137 (Ow.iconst (pc' := 140) (x := 2) B e52_139 ?_)
       refine Ow.icmpF (pc' := 143) B e52_140 (by decide) ?_
       refine Ow.aloadN (pc' := 144) B e52_143 (Ow.iloadN (pc' := 145) B e52_144 (Ow.iconst (pc' := 146) (x := 1) B e52_145 ?_))
       refine Ow.iadd (pc' := 147) (z := (Int32.ofNat (cs.length + 1))) (hz := (Ow.nadd cs.length 1)) B e52_146 ?_
       refine Ow.aload (pc' := 149) B e52_147 (Ow.iload (pc' := 151) B e52_149 (Ow.iconst (pc' := 152) (x := 1) B e52_151 ?_))
       refine Ow.iadd (pc' := 153) (z := 1) B e52_152 ?_
       have f143 := f139.keep Kh141 (Ow.ninS (by omega) Ow.nin0)
       refine Ow.caload (pc' := 154) B e52_153 f143 ⟨by decide, by decide⟩ rfl ?_
       refine Ow.castore (pc' := 155) (i := (cs ++ [(lo pp)]).length) B e52_154 (V142.pad (Ow.pad1 _ _)) ⟨by rw [show ((Int32.ofNat (cs.length + 1))) = Int32.ofNat (cs ++ [(lo pp)]).length from by simp]; exact Ow.nn (by first|omega|(simp;omega)|simp), by rw [show ((Int32.ofNat (cs.length + 1))) = Int32.ofNat (cs ++ [(lo pp)]).length from by simp]; exact Ow.nlT (n := 6) (by first|omega|(simp;omega)|simp)⟩ ?_ (hlt := by simp) (hi := by rw [show ((Int32.ofNat (cs.length + 1))) = Int32.ofNat (cs ++ [(lo pp)]).length from by simp]; exact Ow.nc (by first|omega|(simp;omega)|simp))
       intro h144 Kh144 V145
       have zh144 := Kh144.1
       rw [(hiN pp), Ow.CAs] at V145
       refine Ow.iloadN (pc' := 156) B e52_155 (Ow.iload (pc' := 158) B e52_156 ?_)
       refine Ow.iadd (pc' := 159) (z := (Int32.ofNat (cs.length + 2))) (hz := (Ow.nadd cs.length 2)) B e52_158 ?_
       have f146 := f136.keep Kh141 (Ow.ninS (by omega) Ow.nin0)
       have f147 := f146.keep Kh144 (Ow.ninS (by omega) Ow.nin0)
       have f148 := f137.keep Kh141 (Ow.ninS (by omega) Ow.nin0)
       have f149 := f148.keep Kh144 (Ow.ninS (by omega) Ow.nin0)
       have f150 := f138.keep Kh141 (Ow.ninS (by omega) Ow.nin0) (Ow.ninS (by omega) Ow.nin0)
       have f151 := f150.keep Kh144 (Ow.ninS (by omega) Ow.nin0) (Ow.ninS (by omega) Ow.nin0)
       exact Ow.retI (S' := [t131]) (t := .int) B e52_159 (⟨b130, t131, k132, [lo pp, hi pp], (by simp), caCast V145 (by simp), (by simp), ((((Keep.refl _ [tw, ex, b, vb]).trans Kh128 (allS (Or.inl (by simp)) (allS (Or.inl (by simp)) (allS (Or.inl (by simp)) all0)))).trans Kh141 (allS (Or.inl (by simp)) all0)).trans Kh144 (allS (Or.inl (by simp)) all0)), (by omega), (by omega), (by omega), f147, f149, f151.cast (by simp), rfl⟩)
      ·refine Ow.icmpT (pc' := 110) B e52_103 (feq e2).2 ?_
       refine Ow.iconst (pc' := 111) (x := 1) B e52_110 ?_
       refine Ow.istore (pc' := 113) (Ls' := #[vR tw, vR ex, vI (Int32.ofNat cs.length), vI kd, vI e', vI pp, vR sn, vR ca, vI 0, vI 1]) B e52_111 ?_
       refine Ow.aloadN (pc' := 114) B e52_113 (Ow.aload (pc' := 116) B e52_114 (Ow.iload (pc' := 118) B e52_116 (Ow.iload (pc' := 120) B e52_118 ?_)))
       refine Ow.Go.old (fun o152 => ?_)
       refine Ow.callVirtual (pc' := 123) (W := 0) (k' := 1) (n' := 32) (argsL := [(.ref ca), (.int 0), (.int 1)]) (rest := []) (K := "com/example/ply3/ply3/TextWriter") B e52_120 (w80 hw) (w81 hw) (w83 hw) (w83 hw) (w82 hw) (w31 hw) (w84 hw) E (gWaC01 hw G GS GI (pp := pp) o152 E (by omega) X1 X2 F (by omega) (by omega) (by omega) (by first|omega|(simp;omega)|simp) CAr (by omega)) pd24 ?_
       intro vq153 h154 S155 q153 zh154
       obtain ⟨b156, t157, k158, rfl, Kh154, f159, f160, f161, f162, f163, f164, rfl⟩ := q153
       have lb156 : (b156 : Nat) < h154.size := f164.lt
       have lt157 : (t157 : Nat) < h154.size := f164.ltt
       refine Ow.Go.norm (S' := [t157, vb]) (st' := []) (fun _ q => q) rfl ?_
       refine Ow.iload (pc' := 125) B e52_123 (Ow.iconst (pc' := 126) (x := 1) B e52_125 ?_)
       refine Ow.icmpF (pc' := 129) B e52_126 (by decide) ?_
       refine Ow.aloadN (pc' := 130) B e52_129 (Ow.iloadN (pc' := 131) B e52_130 (Ow.aload (pc' := 133) B e52_131 (Ow.iload (pc' := 135) B e52_133 ?_)))
       have f165 := CAr.keep Kh154 (Ow.ninS (by omega) (Ow.ninS (by omega) (Ow.ninS (by omega) Ow.nin0)))
       refine Ow.caload (pc' := 136) B e52_135 f165 ⟨by decide, by decide⟩ rfl ?_
       have f166 := XA.keep Kh154 (Ow.ninS (by omega) (Ow.ninS (by omega) (Ow.ninS (by omega) Ow.nin0)))
       refine Ow.castore (pc' := 137) (i := (cs).length) B e52_136 (f166.pad (Ow.pad1 _ _)) ⟨by rw [show ((Int32.ofNat cs.length)) = Int32.ofNat (cs).length from by simp]; exact Ow.nn (by first|omega|(simp;omega)|simp), by rw [show ((Int32.ofNat cs.length)) = Int32.ofNat (cs).length from by simp]; exact Ow.nlT (n := 6) (by first|omega|(simp;omega)|simp)⟩ ?_ (hlt := by simp) (hi := by rw [show ((Int32.ofNat cs.length)) = Int32.ofNat (cs).length from by simp]; exact Ow.nc (by first|omega|(simp;omega)|simp))
       intro h167 Kh167 V168
       have zh167 := Kh167.1
       rw [(loN pp), Ow.CAs] at V168
       refine Ow.iload (pc' := 139) B e52_137 (Ow.iconst (pc' := 140) (x := 2) B e52_139 ?_)
       refine Ow.icmpT (pc' := 155) B e52_140 (by decide) ?_
       refine Ow.iloadN (pc' := 156) B e52_155 (Ow.iload (pc' := 158) B e52_156 ?_)
       refine Ow.iadd (pc' := 159) (z := (Int32.ofNat (cs.length + 1))) (hz := (Ow.nadd cs.length 1)) B e52_158 ?_
       have f169 := f162.keep Kh167 (Ow.ninS (by omega) Ow.nin0)
       have f170 := f163.keep Kh167 (Ow.ninS (by omega) Ow.nin0)
       have f171 := f164.keep Kh167 (Ow.ninS (by omega) Ow.nin0) (Ow.ninS (by omega) Ow.nin0)
       exact Ow.retI (S' := [t157]) (t := .int) B e52_159 (⟨b156, t157, k158, [lo pp], (by simp), caCast V168 (by simp), (by simp), (((Keep.refl _ [tw, ex, b, vb]).trans Kh154 (allS (Or.inl (by simp)) (allS (Or.inl (by simp)) (allS (Or.inl (by simp)) all0)))).trans Kh167 (allS (Or.inl (by simp)) all0)), (by omega), (by omega), (by omega), f169, f170, f171.cast (by simp), rfl⟩)
   ·refine Ow.icmpT (pc' := 160) B e52_75 (feq k3).2 ?_
    refine Ow.iloadN (pc' := 161) B e52_160 ?_
    exact Ow.retI (S' := [vb]) (t := .int) B e52_161 (⟨b, vb, kv, [], (by simp), caCast XA (by simp), (by simp), (Keep.refl _ [tw, ex, b, vb]), Or.inl rfl, (by omega), (by omega), X1, X2, F.cast (by simp), rfl⟩)
theorem gSt0 (hw : Hw a0 Z) (G : Ow.Glo Z cz sf) (GS : GlS Z) {iof : Value} (GI : Sta Z Z.heap "jdk/internal/util/Preconditions" "IOOBE_FORMATTER" "Ljava/util/function/BiFunction;" iof ∧ iof.isRef = true) {h0 : Heap} (O0 : Old Z n0 h0) {tw ex sn ca : Nat} {nn e' pp : Int32} :
    Ow.Con l Z EL1 n0 my52 method_5_code 10 (Option.some Jvm.ClassFile.FieldType.int) [] ({ frames := 0, cells := 0, slots := 0, locals := 0 } : Room) #[(.ref tw), (.ref ex), (.int nn), (.int 0), (.int e'), (.int pp), (.ref sn), (.ref ca)] [] h0 (fun v h S' => v = some (.int nn) ∧ h = h0 ∧ S' = []) := by
 refine Ow.Con.enter (Ls := #[vR tw, vR ex, vI nn, vI 0, vI e', vI pp, vR sn, vR ca, .unset, .unset]) (plainFor_of_name pn8) O0 (hEW hw) (hSA hw) ?_
 intro p e s m below meth c B
 have z0 := Ow.old_le O0
 refine Ow.iloadN (pc' := 1) B e52_0 (Ow.iconst (pc' := 2) (x := 1) B e52_1 ?_)
 refine Ow.icmpT (pc' := 21) B e52_2 (by decide) ?_
 refine Ow.iloadN (pc' := 22) B e52_21 (Ow.iconst (pc' := 23) (x := 2) B e52_22 ?_)
 refine Ow.icmpT (pc' := 73) B e52_23 (by decide) ?_
 refine Ow.iloadN (pc' := 74) B e52_73 (Ow.iconst (pc' := 75) (x := 3) B e52_74 ?_)
 refine Ow.icmpT (pc' := 160) B e52_75 (by decide) ?_
 refine Ow.iloadN (pc' := 161) B e52_160 ?_
 exact Ow.retI (S' := []) (t := .int) B e52_161 (⟨rfl, rfl, rfl⟩)
theorem gMin (hw : Hw a0 Z) (G : Ow.Glo Z cz sf) (GS : GlS Z) {iof : Value} (GI : Sta Z Z.heap "jdk/internal/util/Preconditions" "IOOBE_FORMATTER" "Ljava/util/function/BiFunction;" iof ∧ iof.isRef = true) {h0 : Heap} (O0 : Old Z n0 h0) {m' n : Nat} (hn : n ≤ m') (hm : m' ≤ 128) :
    Ow.Con l Z EL1 n0 my53 jdk_29_method_69_code 2 (Option.some Jvm.ClassFile.FieldType.int) [] ({ frames := 0, cells := 0, slots := 0, locals := 0 } : Room) #[(.int (Int32.ofNat m')), (.int (Int32.ofNat n))] [] h0 (fun v h S' => v = some (.int (Int32.ofNat n)) ∧ h = h0 ∧ S' = []) := by
 refine Ow.Con.enter (Ls := #[vI (Int32.ofNat m'), vI (Int32.ofNat n)]) (by decide +kernel) O0 (hEW hw) (hSA hw) ?_
 intro p e s m below meth c B
 have z0 := Ow.old_le O0
 refine Ow.iloadN (pc' := 1) B e53_0 (Ow.iloadN (pc' := 2) B e53_1 ?_)
 by_cases cM : (Int32.ofNat n) < (Int32.ofNat m')
 ·refine Ow.icmpT (pc' := 9) B e53_2 (tlt cM).2.2.1 ?_
  refine Ow.iloadN (pc' := 10) B e53_9 ?_
  exact Ow.retI (S' := []) (t := .int) B e53_10 (⟨rfl, rfl, rfl⟩)
 ·refine Ow.icmpF (pc' := 5) B e53_2 (flt cM).2.2.1 ?_
  refine Ow.iloadN (pc' := 6) B e53_5 ?_
  refine Ow.goto (pc' := 10) B e53_6 ?_
  exact Ow.retI (S' := []) (t := .int) B e53_10 (⟨by rw [show m' = n from by have q : ¬ n < m' := fun q => cM (Ow.nlT q); omega], rfl, rfl⟩)
theorem con_checkLength_25 (hw : Hw a0 Z) (G : Ow.Glo Z cz sf) (GS : GlS Z) {iof : Value} (GI : Sta Z Z.heap "jdk/internal/util/Preconditions" "IOOBE_FORMATTER" "Ljava/util/function/BiFunction;" iof ∧ iof.isRef = true) {px0 : Int32} {px1 : Int32} {h0 : Heap} (O0 : Old Z n0 h0) (hk0 : ¬ (px1 < px0)) :
    Ow.Con l Z EL1 n0 my54 jdk_65_method_131_code 2 (Option.none : Option Jvm.ClassFile.FieldType) [] ({ frames := 0, cells := 0, slots := 0, locals := 0 } : Room) #[(.int px0), (.int px1)] [] h0 (fun v h S' => (v = none ∧ h = h0 ∧ S' = [])) := by
 refine Ow.Con.enter (Ls := #[vI px0, vI px1]) (plainFor_of_name pn9) O0 (hEW hw) (hSA hw) ?_
 intro p e s m below meth c B
 have z0 := Ow.old_le O0
 refine Ow.iloadN (pc' := 1) B e55_0 (Ow.iloadN (pc' := 2) B e55_1 ?_)
 refine Ow.icmpT (pc' := 37) B e55_2 (flt (hk0)).2.1 ?_
 exact Ow.retV (S' := []) B e55_37 (⟨rfl, rfl, rfl⟩)
theorem gCrb (hw : Hw a0 Z) (G : Ow.Glo Z cz sf) (GS : GlS Z) {iof : Value} (GI : Sta Z Z.heap "jdk/internal/util/Preconditions" "IOOBE_FORMATTER" "Ljava/util/function/BiFunction;" iof ∧ iof.isRef = true) {h0 : Heap} (O0 : Old Z n0 h0) {t M i e' : Nat} {kt : ClassId} {vs : List Value} (D : Arv Z h0 t kt .byte (Int32.ofNat M) vs (.int 0)) (hv : vs.length = M) (hi : i ≤ e') (he : e' ≤ M) (hM : M ≤ 128) (hC : e' - i ≤ 32) :
    Ow.Con l Z EL1 n0 my55 jdk_65_method_133_code 5 (Option.some (Jvm.ClassFile.FieldType.array Jvm.ClassFile.FieldType.byte)) [] ({ frames := 1, cells := 1, slots := 32, locals := 18 } : Room) #[(.ref t), (.int (Int32.ofNat i)), (.int (Int32.ofNat e'))] [] h0 (fun v h S' => ∃ r : Nat, ∃ kr : ClassId, v = some (.ref r) ∧ Keep h0 h [] ∧ h0.size ≤ r ∧ Arv Z h r kr .byte (Int32.ofNat (e' - i)) ((vs.drop i).take (e' - i)) (.int 0) ∧ S' = [r]) := by
 refine Ow.Con.enter (Ls := #[vR t, vI (Int32.ofNat i), vI (Int32.ofNat e'), .unset, .unset]) (plainFor_of_name pn9) O0 (hEW hw) (hSA hw) ?_
 intro p e s m below meth c B
 have z0 := Ow.old_le O0
 have lt0 : (t : Nat) < h0.size := D.lt
 refine Ow.iloadN (pc' := 1) B e54_0 (Ow.iloadN (pc' := 2) B e54_1 ?_)
 refine Ow.Go.old (fun o1 => ?_)
 refine Ow.callStatic (pc' := 5) (W := 0) (k' := 0) (n' := 0) (argsL := [(.int (Int32.ofNat i)), (.int (Int32.ofNat e'))]) (rest := []) B e54_2 (w177 hw) (w178 hw) (w172 hw) (w179 hw) (con_checkLength_25 hw G GS GI (px0 := (Int32.ofNat i)) (px1 := (Int32.ofNat e')) o1 ((Ow.nlF (by omega)))) pd10 ?_
 intro vq2 h3 S4 q2 zh3
 obtain ⟨rfl, rfl, rfl⟩ := q2
 refine Ow.Go.nr (S' := []) (st' := []) ?_
 refine Ow.iloadN (pc' := 6) B e54_5 (Ow.iloadN (pc' := 7) B e54_6 ?_)
 refine Ow.isub (pc' := 8) (z := (Int32.ofNat (e' - i))) (hz := (Ow.nsub hi)) B e54_7 ?_
 refine Ow.istoreN (pc' := 9) (Ls' := #[vR t, vI (Int32.ofNat i), vI (Int32.ofNat e'), vI (Int32.ofNat (e' - i)), .unset]) B e54_8 ?_
 refine Ow.iloadN (pc' := 10) B e54_9 ?_
 refine Ow.newArr (pc' := 12) (k' := 1) (n' := 32) (cap := 32) B e54_10 (w19 hw) Ow.nn (by rw [Ow.nc]; omega) ?_
 intro h6 a5 ka5 ga5 ba5 Kh6 V0a5
 have zh6 := Kh6.1
 have la5 : (a5 : Nat) < h6.size := V0a5.lt
 refine Ow.astore (pc' := 14) (Ls' := #[vR t, vI (Int32.ofNat i), vI (Int32.ofNat e'), vI (Int32.ofNat (e' - i)), vR a5]) B e54_12 ?_
 refine Ow.aloadN (pc' := 15) B e54_14 (Ow.iloadN (pc' := 16) B e54_15 (Ow.aload (pc' := 18) B e54_16 (Ow.iconst (pc' := 19) (x := 0) B e54_18 (Ow.aloadN (pc' := 20) B e54_19 ?_))))
 have f7 := D.keep Kh6 Ow.nin0
 refine Ow.arrlen (pc' := 21) B e54_20 f7 ?_
 refine Ow.iloadN (pc' := 22) B e54_21 ?_
 refine Ow.isub (pc' := 23) (z := (Int32.ofNat (M - i))) (hz := (Ow.nsub (by omega))) B e54_22 ?_
 refine Ow.iloadN (pc' := 24) B e54_23 ?_
 refine Ow.Go.old (fun o8 => ?_)
 refine Ow.callStatic (pc' := 27) (W := 4) (k' := 1) (n' := 32) (argsL := [(.int (Int32.ofNat (M - i))), (.int (Int32.ofNat (e' - i)))]) (rest := [(.int 0), (.ref a5), (.int (Int32.ofNat i)), (.ref t)]) B e54_24 (w180 hw) (w181 hw) (w182 hw) (w183 hw) (gMin hw G GS GI o8 (by omega) (by omega)) pd36 ?_
 intro vq9 h10 S11 q9 zh10
 obtain ⟨rfl, rfl, rfl⟩ := q9
 refine Ow.Go.nr (S' := [a5]) (st' := [(.int (Int32.ofNat (e' - i))), (.int 0), (.ref a5), (.int (Int32.ofNat i)), (.ref t)]) ?_
 refine Ow.acopy (pc' := 30) (W := 0) (us := (vs.drop i).take (e' - i)) B e54_27 (w184 hw) (w187 hw) (w185 hw) (w186 hw) f7 (V0a5.pad (pad_rep [] (.int 0) (e' - i))) (by simp) ?_ (h1 := Ow.nn) (h2 := by decide) (h3 := Ow.nn) (h4 := by rw [Ow.nc, Ow.nc, Ow.nc]; omega) (h5 := by rw [Ow.nc]; exact Nat.le_of_eq (Nat.zero_add _)) (hl := by rw [Ow.nc]; simp) (hus := by rw [Ow.nc, Ow.nc]; exact Ow.cpy (by omega))
 intro h12 Kh12 V13
 have zh12 := Kh12.1
 refine Ow.aload (pc' := 32) B e54_30 ?_
 exact Ow.retA (S' := [a5]) (t := (.array .byte)) B e54_32 (⟨a5, ka5, rfl, (((Keep.refl _ []).trans Kh6 (fun _ q => nomatch q)).trans Kh12 (allS (Or.inr (by omega)) all0)), (by omega), V13, rfl⟩)
theorem gCor (hw : Hw a0 Z) (G : Ow.Glo Z cz sf) (GS : GlS Z) {iof : Value} (GI : Sta Z Z.heap "jdk/internal/util/Preconditions" "IOOBE_FORMATTER" "Ljava/util/function/BiFunction;" iof ∧ iof.isRef = true) {h0 : Heap} (O0 : Old Z n0 h0) {t M i e' : Nat} {kt : ClassId} {vs : List Value} (D : Arv Z h0 t kt .byte (Int32.ofNat M) vs (.int 0)) (hv : vs.length = M) (hi : i ≤ e') (he : e' ≤ M) (hM : M ≤ 128) (hC : e' - i ≤ 32) (hf : ¬ (i = 0 ∧ e' = M)) :
    Ow.Con l Z EL1 n0 my56 jdk_65_method_132_code 3 (Option.some (Jvm.ClassFile.FieldType.array Jvm.ClassFile.FieldType.byte)) [] ({ frames := 2, cells := 1, slots := 32, locals := 34 } : Room) #[(.ref t), (.int (Int32.ofNat i)), (.int (Int32.ofNat e'))] [] h0 (fun v h S' => ∃ r : Nat, ∃ kr : ClassId, v = some (.ref r) ∧ Keep h0 h [] ∧ h0.size ≤ r ∧ Arv Z h r kr .byte (Int32.ofNat (e' - i)) ((vs.drop i).take (e' - i)) (.int 0) ∧ S' = [r]) := by
 refine Ow.Con.enter (Ls := #[vR t, vI (Int32.ofNat i), vI (Int32.ofNat e')]) (plainFor_of_name pn9) O0 (hEW hw) (hSA hw) ?_
 intro p e s m below meth c B
 have z0 := Ow.old_le O0
 have lt0 : (t : Nat) < h0.size := D.lt
 refine Ow.iloadN (pc' := 1) B e56_0 ?_
 by_cases c1 : (Int32.ofNat i) = (0 : Int32)
 ·refine Ow.ifF (pc' := 4) B e56_1 (teq c1).2 ?_
  refine Ow.iloadN (pc' := 5) B e56_4 (Ow.aloadN (pc' := 6) B e56_5 ?_)
  refine Ow.arrlen (pc' := 7) B e56_6 D ?_
  refine Ow.icmpF (pc' := 10) B e56_7 (feq (Ow.nE (h := fun q => hf ⟨Ow.nz c1 (by omega), q⟩))).1 ?_
  refine Ow.aloadN (pc' := 11) B e56_10 (Ow.iloadN (pc' := 12) B e56_11 (Ow.iloadN (pc' := 13) B e56_12 ?_))
  refine Ow.Go.old (fun o1 => ?_)
  refine Ow.callStatic (pc' := 16) (W := 0) (k' := 1) (n' := 32) (argsL := [(.ref t), (.int (Int32.ofNat i)), (.int (Int32.ofNat e'))]) (rest := []) B e56_13 (w174 hw) (w175 hw) (w172 hw) (w176 hw) (gCrb hw G GS GI o1 D hv hi he hM hC) pd37 ?_
  intro vq2 h3 S4 q2 zh3
  obtain ⟨r5, k6, rfl, Kh3, br5, f7, rfl⟩ := q2
  have lr5 : (r5 : Nat) < h3.size := f7.lt
  refine Ow.Go.norm (S' := [r5]) (st' := [(.ref r5)]) (fun _ q => q) rfl ?_
  exact Ow.retA (S' := [r5]) (t := (.array .byte)) B e56_16 (⟨r5, k6, rfl, ((Keep.refl _ []).trans Kh3 (fun _ q => nomatch q)), (by omega), f7, rfl⟩)
 ·refine Ow.ifT (pc' := 10) B e56_1 (feq c1).2 ?_
  refine Ow.aloadN (pc' := 11) B e56_10 (Ow.iloadN (pc' := 12) B e56_11 (Ow.iloadN (pc' := 13) B e56_12 ?_))
  refine Ow.Go.old (fun o8 => ?_)
  refine Ow.callStatic (pc' := 16) (W := 0) (k' := 1) (n' := 32) (argsL := [(.ref t), (.int (Int32.ofNat i)), (.int (Int32.ofNat e'))]) (rest := []) B e56_13 (w174 hw) (w175 hw) (w172 hw) (w176 hw) (gCrb hw G GS GI o8 D hv hi he hM hC) pd37 ?_
  intro vq9 h10 S11 q9 zh10
  obtain ⟨r12, k13, rfl, Kh10, br12, f14, rfl⟩ := q9
  have lr12 : (r12 : Nat) < h10.size := f14.lt
  refine Ow.Go.norm (S' := [r12]) (st' := [(.ref r12)]) (fun _ q => q) rfl ?_
  exact Ow.retA (S' := [r12]) (t := (.array .byte)) B e56_16 (⟨r12, k13, rfl, ((Keep.refl _ []).trans Kh10 (fun _ q => nomatch q)), (by omega), f14, rfl⟩)
theorem gStr (hw : Hw a0 Z) (G : Ow.Glo Z cz sf) (GS : GlS Z) {iof : Value} (GI : Sta Z Z.heap "jdk/internal/util/Preconditions" "IOOBE_FORMATTER" "Ljava/util/function/BiFunction;" iof ∧ iof.isRef = true) {h0 : Heap} (O0 : Old Z n0 h0) {pp e' : Int32} :
    Ow.Con l Z EL1 n0 my57 method_4_code 3 (Option.some (Jvm.ClassFile.FieldType.object "java/lang/String")) [] ({ frames := 6, cells := 6, slots := 54, locals := 88 } : Room) #[(.int pp), (.int e')] [] h0 (fun v h S' => ∃ r : Nat, ∃ t : Nat, ∃ kt : ClassId, ∃ ss : List Int32, v = some (.ref r) ∧ Keep h0 h [] ∧ h0.size ≤ r ∧ Ow.Chs Z h r t kt ss ∧ StrP pp e' ss ∧ S' = []) := by
 refine Ow.Con.enter (Ls := #[vI pp, vI e', .unset]) (plainFor_of_name pn8) O0 (hEW hw) (hSA hw) ?_
 intro p e s m below meth c B
 have z0 := Ow.old_le O0
 refine Ow.iloadN (pc' := 1) B e57_0 ?_
 by_cases c1 : e' = (0 : Int32)
 ·refine Ow.ifF (pc' := 4) B e57_1 (teq c1).2 ?_
  refine Ow.newObj (pc' := 7) (k' := 1) (n' := 4) B e57_4 (w4 hw) (w5 hw) (w6 hw) ?_
  intro h2 a1 ga1 ba1 Kh2 Aa1 Da1
  have zh2 := Kh2.1
  have la1 : (a1 : Nat) < h2.size := Aa1.lt
  have f3 : Fld Z h2 a1 "java/lang/String" "value" "[B" .null := Da1 (Or.inr (w20 hw)) (ty := (.array .byte)) (by decide)
  have f4 : Fld Z h2 a1 "java/lang/String" "coder" "B" (.int 0) := Da1 (Or.inr (w21 hw)) (ty := .byte) (by decide)
  refine Ow.dup (pc' := 8) B e57_7 (Ow.iconst (pc' := 9) (x := 0) B e57_8 ?_)
  refine Ow.newArr (pc' := 11) (k' := 2) (n' := 4) (cap := 0) B e57_9 (w7 hw) (by decide) (by decide) ?_
  intro h6 a5 ka5 ga5 ba5 Kh6 V0a5
  have zh6 := Kh6.1
  have la5 : (a5 : Nat) < h6.size := V0a5.lt
  have Va5 : Arv Z h6 a5 ka5 .char (0 : Int32) [] (.int 0) := V0a5.pad (pad_rep [] (.int 0) 0)
  have f7 := Aa1.keep Kh6
  have f8 := f3.keep Kh6 Ow.nin0
  have f9 := f4.keep Kh6 Ow.nin0
  refine Ow.Go.old (fun o10 => ?_)
  refine Ow.callInit (pc' := 14) (W := 1) (k' := 6) (n' := 52) (argsL := [(.ref a5)]) (rest := [(.ref a1)]) B e57_11 (w8 hw) (w9 hw) (w6 hw) (w10 hw) (gIni hw G GS GI (cs := []) o10 Va5 f7 f8 f9 (by omega) (by omega) Ow.allI0 (by simp) (by simp)) pd38 ?_
  intro vq11 h12 S13 q11 zh12
  obtain ⟨t14, k15, rfl, Kh12, f16, rfl⟩ := q11
  have lt14 : (t14 : Nat) < h12.size := f16.ltt
  refine Ow.Go.nr (S' := [a5, a1]) (st' := [(.ref a1)]) ?_
  exact Ow.retA (S' := []) (t := (.object "java/lang/String")) B e57_14 (⟨a1, t14, k15, [], rfl, ((((Keep.refl _ []).trans Kh2 (fun _ q => nomatch q)).trans Kh6 (fun _ q => nomatch q)).trans Kh12 (allS (Or.inr (by omega)) all0)), (by omega), f16, Or.inl ⟨c1, rfl⟩, rfl⟩)
 ·refine Ow.ifT (pc' := 15) B e57_1 (feq c1).2 ?_
  refine Ow.iloadN (pc' := 16) B e57_15 (Ow.iconst (pc' := 17) (x := 1) B e57_16 ?_)
  by_cases c17 : e' = (1 : Int32)
  ·refine Ow.icmpF (pc' := 20) B e57_17 (teq c17).2 ?_
   refine Ow.iconst (pc' := 21) (x := 1) B e57_20 ?_
   refine Ow.newArr (pc' := 23) (k' := 1) (n' := 1) (cap := 1) B e57_21 (w7 hw) (by decide) (by decide) ?_
   intro h18 a17 ka17 ga17 ba17 Kh18 V0a17
   have zh18 := Kh18.1
   have la17 : (a17 : Nat) < h18.size := V0a17.lt
   have Va17 : Arv Z h18 a17 ka17 .char (1 : Int32) [(.int 0)] (.int 0) := V0a17.pad (pad_rep [] (.int 0) 1)
   refine Ow.astoreN (pc' := 24) (Ls' := #[vI pp, vI e', vR a17]) B e57_23 ?_
   refine Ow.aloadN (pc' := 25) B e57_24 (Ow.iconst (pc' := 26) (x := 0) B e57_25 (Ow.iloadN (pc' := 27) B e57_26 ?_))
   refine Ow.i2c (pc' := 28) (z := (lo pp)) B e57_27 ?_
   refine Ow.castore (pc' := 29) (i := 0) B e57_28 Va17 ⟨by decide, by decide⟩ ?_
   intro h19 Kh19 V0h19
   have zh19 := Kh19.1
   have V20 : Arv Z h19 a17 ka17 .char (1 : Int32) [(.int (lo pp))] (.int 0) := (by have e0 := V0h19; rw [show nar .char (lo pp) = (lo pp) from (loN pp)] at e0; exact e0)
   refine Ow.newObj (pc' := 32) (k' := 2) (n' := 5) B e57_29 (w4 hw) (w5 hw) (w6 hw) ?_
   intro h22 a21 ga21 ba21 Kh22 Aa21 Da21
   have zh22 := Kh22.1
   have la21 : (a21 : Nat) < h22.size := Aa21.lt
   have f23 : Fld Z h22 a21 "java/lang/String" "value" "[B" .null := Da21 (Or.inr (w20 hw)) (ty := (.array .byte)) (by decide)
   have f24 : Fld Z h22 a21 "java/lang/String" "coder" "B" (.int 0) := Da21 (Or.inr (w21 hw)) (ty := .byte) (by decide)
   refine Ow.dup (pc' := 33) B e57_32 (Ow.aloadN (pc' := 34) B e57_33 ?_)
   have f25 := V20.keep Kh22 Ow.nin0
   refine Ow.Go.old (fun o26 => ?_)
   refine Ow.callInit (pc' := 37) (W := 1) (k' := 6) (n' := 53) (argsL := [(.ref a17)]) (rest := [(.ref a21)]) B e57_34 (w8 hw) (w9 hw) (w6 hw) (w10 hw) (gIni hw G GS GI (cs := [(lo pp)]) o26 f25 Aa21 f23 f24 (by omega) (by omega) (Ow.allI ⟨(lo0 pp), (lo16 pp)⟩ Ow.allI0) (by simp) (by simp)) pd38 ?_
   intro vq27 h28 S29 q27 zh28
   obtain ⟨t30, k31, rfl, Kh28, f32, rfl⟩ := q27
   have lt30 : (t30 : Nat) < h28.size := f32.ltt
   refine Ow.Go.nr (S' := [a21, a17]) (st' := [(.ref a21)]) ?_
   exact Ow.retA (S' := []) (t := (.object "java/lang/String")) B e57_37 (⟨a21, t30, k31, [(lo pp)], rfl, (((((Keep.refl _ []).trans Kh18 (fun _ q => nomatch q)).trans Kh19 (allS (Or.inr (by omega)) all0)).trans Kh22 (fun _ q => nomatch q)).trans Kh28 (allS (Or.inr (by omega)) all0)), (by omega), f32, Or.inr (Or.inl ⟨c17, rfl⟩), rfl⟩)
  ·refine Ow.icmpT (pc' := 38) B e57_17 (feq c17).2 ?_
   refine Ow.iconst (pc' := 39) (x := 2) B e57_38 ?_
   refine Ow.newArr (pc' := 41) (k' := 1) (n' := 2) (cap := 2) B e57_39 (w7 hw) (by decide) (by decide) ?_
   intro h34 a33 ka33 ga33 ba33 Kh34 V0a33
   have zh34 := Kh34.1
   have la33 : (a33 : Nat) < h34.size := V0a33.lt
   have Va33 : Arv Z h34 a33 ka33 .char (2 : Int32) [(.int 0), (.int 0)] (.int 0) := V0a33.pad (pad_rep [] (.int 0) 2)
   refine Ow.astoreN (pc' := 42) (Ls' := #[vI pp, vI e', vR a33]) B e57_41 ?_
   refine Ow.aloadN (pc' := 43) B e57_42 (Ow.iconst (pc' := 44) (x := 0) B e57_43 (Ow.iloadN (pc' := 45) B e57_44 ?_))
   refine Ow.i2c (pc' := 46) (z := (lo pp)) B e57_45 ?_
   refine Ow.castore (pc' := 47) (i := 0) B e57_46 Va33 ⟨by decide, by decide⟩ ?_
   intro h35 Kh35 V0h35
   have zh35 := Kh35.1
   have V36 : Arv Z h35 a33 ka33 .char (2 : Int32) [(.int (lo pp)), (.int 0)] (.int 0) := (by have e0 := V0h35; rw [show nar .char (lo pp) = (lo pp) from (loN pp)] at e0; exact e0)
   refine Ow.aloadN (pc' := 48) B e57_47 (Ow.iconst (pc' := 49) (x := 1) B e57_48 (Ow.iloadN (pc' := 50) B e57_49 (Ow.bipush (pc' := 52) (x := 16) B e57_50 ?_)))
   refine Ow.iushr (pc' := 53) (z := (Jvm.Free.XT.ushr pp (16 : Int32))) B e57_52 ?_
   refine Ow.i2c (pc' := 54) (z := (hi pp)) B e57_53 ?_
   refine Ow.castore (pc' := 55) (i := 1) B e57_54 V36 ⟨by decide, by decide⟩ ?_
   intro h37 Kh37 V0h37
   have zh37 := Kh37.1
   have V38 : Arv Z h37 a33 ka33 .char (2 : Int32) [(.int (lo pp)), (.int (hi pp))] (.int 0) := (by have e0 := V0h37; rw [show nar .char (hi pp) = (hi pp) from (hiN pp)] at e0; exact e0)
   refine Ow.newObj (pc' := 58) (k' := 2) (n' := 6) B e57_55 (w4 hw) (w5 hw) (w6 hw) ?_
   intro h40 a39 ga39 ba39 Kh40 Aa39 Da39
   have zh40 := Kh40.1
   have la39 : (a39 : Nat) < h40.size := Aa39.lt
   have f41 : Fld Z h40 a39 "java/lang/String" "value" "[B" .null := Da39 (Or.inr (w20 hw)) (ty := (.array .byte)) (by decide)
   have f42 : Fld Z h40 a39 "java/lang/String" "coder" "B" (.int 0) := Da39 (Or.inr (w21 hw)) (ty := .byte) (by decide)
   refine Ow.dup (pc' := 59) B e57_58 (Ow.aloadN (pc' := 60) B e57_59 ?_)
   have f43 := V38.keep Kh40 Ow.nin0
   refine Ow.Go.old (fun o44 => ?_)
   refine Ow.callInit (pc' := 63) (W := 1) (k' := 6) (n' := 54) (argsL := [(.ref a33)]) (rest := [(.ref a39)]) B e57_60 (w8 hw) (w9 hw) (w6 hw) (w10 hw) (gIni hw G GS GI (cs := [(lo pp), (hi pp)]) o44 f43 Aa39 f41 f42 (by omega) (by omega) (Ow.allI ⟨(lo0 pp), (lo16 pp)⟩ (Ow.allI ⟨(hi0 pp), (hi16 pp)⟩ Ow.allI0)) (by simp) (by simp)) pd38 ?_
   intro vq45 h46 S47 q45 zh46
   obtain ⟨t48, k49, rfl, Kh46, f50, rfl⟩ := q45
   have lt48 : (t48 : Nat) < h46.size := f50.ltt
   refine Ow.Go.nr (S' := [a39, a33]) (st' := [(.ref a39)]) ?_
   exact Ow.retA (S' := []) (t := (.object "java/lang/String")) B e57_63 (⟨a39, t48, k49, [(lo pp), (hi pp)], rfl, ((((((Keep.refl _ []).trans Kh34 (fun _ q => nomatch q)).trans Kh35 (allS (Or.inr (by omega)) all0)).trans Kh37 (allS (Or.inr (by omega)) all0)).trans Kh40 (fun _ q => nomatch q)).trans Kh46 (allS (Or.inr (by omega)) all0)), (by omega), f50, Or.inr (Or.inr rfl), rfl⟩)
theorem gPair (hw : Hw a0 Z) (G : Ow.Glo Z cz sf) (GS : GlS Z) {iof : Value} (GI : Sta Z Z.heap "jdk/internal/util/Preconditions" "IOOBE_FORMATTER" "Ljava/util/function/BiFunction;" iof ∧ iof.isRef = true) {h0 : Heap} (O0 : Old Z n0 h0) {pp : Int32} :
    Ow.Con l Z EL1 n0 my58 method_3_code 2 (Option.some (Jvm.ClassFile.FieldType.array Jvm.ClassFile.FieldType.char)) [] ({ frames := 0, cells := 1, slots := 2, locals := 0 } : Room) #[(.int pp)] [] h0 (fun v h S' => ∃ r : Nat, ∃ kr : ClassId, v = some (.ref r) ∧ Keep h0 h [] ∧ h0.size ≤ r ∧ Arv Z h r kr .char 2 [(.int (lo pp)), (.int (hi pp))] (.int 0) ∧ S' = []) := by
 refine Ow.Con.enter (Ls := #[vI pp, .unset]) (plainFor_of_name pn8) O0 (hEW hw) (hSA hw) ?_
 intro p e s m below meth c B
 have z0 := Ow.old_le O0
 refine Ow.iconst (pc' := 1) (x := 2) B e58_0 ?_
 refine Ow.newArr (pc' := 3) (k' := 1) (n' := 2) (cap := 2) B e58_1 (w7 hw) (by decide) (by decide) ?_
 intro h2 a1 ka1 ga1 ba1 Kh2 V0a1
 have zh2 := Kh2.1
 have la1 : (a1 : Nat) < h2.size := V0a1.lt
 have Va1 : Arv Z h2 a1 ka1 .char (2 : Int32) [(.int 0), (.int 0)] (.int 0) := V0a1.pad (pad_rep [] (.int 0) 2)
 refine Ow.astoreN (pc' := 4) (Ls' := #[vI pp, vR a1]) B e58_3 ?_
 refine Ow.aloadN (pc' := 5) B e58_4 (Ow.iconst (pc' := 6) (x := 0) B e58_5 (Ow.iloadN (pc' := 7) B e58_6 ?_))
 refine Ow.i2c (pc' := 8) (z := (lo pp)) B e58_7 ?_
 refine Ow.castore (pc' := 9) (i := 0) B e58_8 Va1 ⟨by decide, by decide⟩ ?_
 intro h3 Kh3 V0h3
 have zh3 := Kh3.1
 have V4 : Arv Z h3 a1 ka1 .char (2 : Int32) [(.int (lo pp)), (.int 0)] (.int 0) := (by have e0 := V0h3; rw [show nar .char (lo pp) = (lo pp) from (loN pp)] at e0; exact e0)
 refine Ow.aloadN (pc' := 10) B e58_9 (Ow.iconst (pc' := 11) (x := 1) B e58_10 (Ow.iloadN (pc' := 12) B e58_11 (Ow.bipush (pc' := 14) (x := 16) B e58_12 ?_)))
 refine Ow.iushr (pc' := 15) (z := (Jvm.Free.XT.ushr pp (16 : Int32))) B e58_14 ?_
 refine Ow.i2c (pc' := 16) (z := (hi pp)) B e58_15 ?_
 refine Ow.castore (pc' := 17) (i := 1) B e58_16 V4 ⟨by decide, by decide⟩ ?_
 intro h5 Kh5 V0h5
 have zh5 := Kh5.1
 have V6 : Arv Z h5 a1 ka1 .char (2 : Int32) [(.int (lo pp)), (.int (hi pp))] (.int 0) := (by have e0 := V0h5; rw [show nar .char (hi pp) = (hi pp) from (hiN pp)] at e0; exact e0)
 refine Ow.aloadN (pc' := 18) B e58_17 ?_
 exact Ow.retA (S' := []) (t := (.array .char)) B e58_18 (⟨a1, ka1, rfl, ((((Keep.refl _ []).trans Kh2 (fun _ q => nomatch q)).trans Kh3 (allS (Or.inr (by omega)) all0)).trans Kh5 (allS (Or.inr (by omega)) all0)), (by omega), V6, rfl⟩)
theorem con_getValue_26 (hw : Hw a0 Z) (G : Ow.Glo Z cz sf) (GS : GlS Z) {iof : Value} (GI : Sta Z Z.heap "jdk/internal/util/Preconditions" "IOOBE_FORMATTER" "Ljava/util/function/BiFunction;" iof ∧ iof.isRef = true) {pa0 : Nat} {pa1 : Nat} {h0 : Heap} (O0 : Old Z n0 h0) (hf0 : Fld Z h0 pa0 "java/lang/AbstractStringBuilder" "value" "[B" (.ref pa1)) :
    Ow.Con l Z EL1 n0 my59 jdk_68_method_64_code 1 (Option.some (Jvm.ClassFile.FieldType.array Jvm.ClassFile.FieldType.byte)) [] ({ frames := 0, cells := 0, slots := 0, locals := 0 } : Room) #[(.ref pa0)] [] h0 (fun v h S' => (v = some (.ref pa1) ∧ h = h0 ∧ S' = [])) := by
 refine Ow.Con.enter (Ls := #[vR pa0]) (plainFor_of_name pn4) O0 (hEW hw) (hSA hw) ?_
 intro p e s m below meth c B
 have z0 := Ow.old_le O0
 have lpa0 : (pa0 : Nat) < h0.size := hf0.lt
 refine Ow.aloadN (pc' := 1) B e60_0 ?_
 refine Ow.getfield (pc' := 4) B e60_1 (w103 hw) Via.refl hf0 ?_
 exact Ow.retA (S' := []) (t := (.array .byte)) B e60_4 (⟨rfl, rfl, rfl⟩)
theorem con_length_27 (hw : Hw a0 Z) (G : Ow.Glo Z cz sf) (GS : GlS Z) {iof : Value} (GI : Sta Z Z.heap "jdk/internal/util/Preconditions" "IOOBE_FORMATTER" "Ljava/util/function/BiFunction;" iof ∧ iof.isRef = true) {pa0 : Nat} {px0 : Int32} {h0 : Heap} (O0 : Old Z n0 h0) (hf0 : Fld Z h0 pa0 "java/lang/AbstractStringBuilder" "count" "I" (.int px0)) :
    Ow.Con l Z EL1 n0 my60 jdk_68_method_6_code 1 (Option.some Jvm.ClassFile.FieldType.int) [] ({ frames := 0, cells := 0, slots := 0, locals := 0 } : Room) #[(.ref pa0)] [] h0 (fun v h S' => (v = some (.int px0) ∧ h = h0 ∧ S' = [])) := by
 refine Ow.Con.enter (Ls := #[vR pa0]) (plainFor_of_name pn4) O0 (hEW hw) (hSA hw) ?_
 intro p e s m below meth c B
 have z0 := Ow.old_le O0
 have lpa0 : (pa0 : Nat) < h0.size := hf0.lt
 refine Ow.aloadN (pc' := 1) B e62_0 ?_
 refine Ow.getfield (pc' := 4) B e62_1 (w123 hw) Via.refl hf0 ?_
 exact Ow.retI (S' := []) (t := .int) B e62_4 (⟨rfl, rfl, rfl⟩)
theorem con_length_28 (hw : Hw a0 Z) (G : Ow.Glo Z cz sf) (GS : GlS Z) {iof : Value} (GI : Sta Z Z.heap "jdk/internal/util/Preconditions" "IOOBE_FORMATTER" "Ljava/util/function/BiFunction;" iof ∧ iof.isRef = true) {pa0 : Nat} {px0 : Int32} {h0 : Heap} (O0 : Old Z n0 h0) (hf0 : Exa Z h0 pa0 "java/lang/StringBuilder") (hf1 : Fld Z h0 pa0 "java/lang/AbstractStringBuilder" "count" "I" (.int px0)) :
    Ow.Con l Z EL1 n0 my61 jdk_67_method_93_code 1 (Option.some Jvm.ClassFile.FieldType.int) [] ({ frames := 1, cells := 0, slots := 0, locals := 12 } : Room) #[(.ref pa0)] [] h0 (fun v h S' => (v = some (.int px0) ∧ h = h0 ∧ S' = [])) := by
 refine Ow.Con.enter (Ls := #[vR pa0]) (plainFor_of_name pn5) O0 (hEW hw) (hSA hw) ?_
 intro p e s m below meth c B
 have z0 := Ow.old_le O0
 have lpa0 : (pa0 : Nat) < h0.size := hf0.lt
 refine Ow.aloadN (pc' := 1) B e61_0 ?_
 refine Ow.Go.old (fun o1 => ?_)
 refine Ow.callSuper (pc' := 4) (W := 0) (k' := 0) (n' := 0) (argsL := []) (rest := []) (K := "java/lang/StringBuilder") B e61_1 (w167 hw) (w163 hw) (w99 hw) (w168 hw) (w114 hw) (w128 hw) hf0 (con_length_27 hw G GS GI (pa0 := pa0) (px0 := px0) o1 hf1) pd28 ?_
 intro vq2 h3 S4 q2 zh3
 obtain ⟨rfl, rfl, rfl⟩ := q2
 refine Ow.Go.nr (S' := []) (st' := [(.int px0)]) ?_
 exact Ow.retI (S' := []) (t := .int) B e61_4 (⟨rfl, rfl, rfl⟩)
theorem con_isLatin1_29 (hw : Hw a0 Z) (G : Ow.Glo Z cz sf) (GS : GlS Z) {iof : Value} (GI : Sta Z Z.heap "jdk/internal/util/Preconditions" "IOOBE_FORMATTER" "Ljava/util/function/BiFunction;" iof ∧ iof.isRef = true) {pa0 : Nat} {h0 : Heap} (O0 : Old Z n0 h0) (hf0 : Fld Z h0 pa0 "java/lang/AbstractStringBuilder" "coder" "B" (.int 0)) :
    Ow.Con l Z EL1 n0 my32 jdk_68_method_68_code 1 (Option.some Jvm.ClassFile.FieldType.boolean) [] ({ frames := 0, cells := 0, slots := 0, locals := 0 } : Room) #[(.ref pa0)] [] h0 (fun v h S' => (v = some (.int 1) ∧ h = h0 ∧ S' = [])) := by
 refine Ow.Con.enter (Ls := #[vR pa0]) (plainFor_of_name pn4) O0 (hEW hw) (hSA hw) ?_
 intro p e s m below meth c B
 have z0 := Ow.old_le O0
 have lpa0 : (pa0 : Nat) < h0.size := hf0.lt
 refine Ow.getstatic (pc' := 3) B e33_0 (w102 hw) Via.refl G.1 ?_
 refine Ow.ifF (pc' := 6) B e33_3 (feq (G.2.1)).1 ?_
 refine Ow.aloadN (pc' := 7) B e33_6 ?_
 refine Ow.getfield (pc' := 10) B e33_7 (w105 hw) Via.refl hf0 ?_
 refine Ow.ifF (pc' := 13) B e33_10 (by decide) ?_
 refine Ow.iconst (pc' := 14) (x := 1) B e33_13 ?_
 refine Ow.goto (pc' := 18) B e33_14 ?_
 exact Ow.retI (S' := []) (t := .boolean) B e33_18 (⟨rfl, rfl, rfl⟩)
theorem con_isLatin1_30 (hw : Hw a0 Z) (G : Ow.Glo Z cz sf) (GS : GlS Z) {iof : Value} (GI : Sta Z Z.heap "jdk/internal/util/Preconditions" "IOOBE_FORMATTER" "Ljava/util/function/BiFunction;" iof ∧ iof.isRef = true) {pa0 : Nat} {h0 : Heap} (O0 : Old Z n0 h0) (hf0 : Fld Z h0 pa0 "java/lang/AbstractStringBuilder" "coder" "B" (.int 1)) :
    Ow.Con l Z EL1 n0 my32 jdk_68_method_68_code 1 (Option.some Jvm.ClassFile.FieldType.boolean) [] ({ frames := 0, cells := 0, slots := 0, locals := 0 } : Room) #[(.ref pa0)] [] h0 (fun v h S' => (v = some (.int 0) ∧ h = h0 ∧ S' = [])) := by
 refine Ow.Con.enter (Ls := #[vR pa0]) (plainFor_of_name pn4) O0 (hEW hw) (hSA hw) ?_
 intro p e s m below meth c B
 have z0 := Ow.old_le O0
 have lpa0 : (pa0 : Nat) < h0.size := hf0.lt
 refine Ow.getstatic (pc' := 3) B e33_0 (w102 hw) Via.refl G.1 ?_
 refine Ow.ifF (pc' := 6) B e33_3 (feq (G.2.1)).1 ?_
 refine Ow.aloadN (pc' := 7) B e33_6 ?_
 refine Ow.getfield (pc' := 10) B e33_7 (w105 hw) Via.refl hf0 ?_
 refine Ow.ifT (pc' := 17) B e33_10 (by decide) ?_
 refine Ow.iconst (pc' := 18) (x := 0) B e33_17 ?_
 exact Ow.retI (S' := []) (t := .boolean) B e33_18 (⟨rfl, rfl, rfl⟩)
theorem gSi1 (hw : Hw a0 Z) (G : Ow.Glo Z cz sf) (GS : GlS Z) {iof : Value} (GI : Sta Z Z.heap "jdk/internal/util/Preconditions" "IOOBE_FORMATTER" "Ljava/util/function/BiFunction;" iof ∧ iof.isRef = true) {h0 : Heap} (O0 : Old Z n0 h0) {sr b vb : Nat} {kv : ClassId} {cs : List Int32} (E0 : Exa Z h0 sr "java/lang/String") (V0 : Fld Z h0 sr "java/lang/String" "value" "[B" .null) (C0 : Fld Z h0 sr "java/lang/String" "coder" "B" (.int 0)) (F : Sbd Z h0 b vb kv cs) (hsr : n0 ≤ sr) (hn1 : sr ≠ b) (hn2 : sr ≠ vb) (hc : cs.length ≤ 6) :
    Ow.Con l Z EL1 n0 my62 jdk_42_method_150_code 5 (Option.none : Option Jvm.ClassFile.FieldType) [] ({ frames := 3, cells := 1, slots := 32, locals := 49 } : Room) #[(.ref sr), (.ref b), .null] [sr] h0 (fun v h S' => ∃ t : Nat, ∃ kt : ClassId, v = none ∧ Keep h0 h [sr] ∧ Ow.Chs Z h sr t kt cs ∧ S' = []) := by
 rcases F.2.2.2.2.2 with ⟨oc, oa, ol⟩ | ⟨oc, oa, ou⟩
 ·refine Ow.Con.enter (Ls := #[vR sr, vR b, .val .null, .unset, .unset]) (plainFor_of_name pn1) O0 (hEW hw) (hSA hw) ?_
  intro p e s m below meth c B
  have z0 := Ow.old_le O0
  have lsr : (sr : Nat) < h0.size := E0.lt
  have lb : (b : Nat) < h0.size := F.lt
  have lvb : (vb : Nat) < h0.size := F.ltt
  refine Ow.aloadN (pc' := 1) B e59_0 ?_
  refine Ow.objInit (pc' := 4) (W := 0) B e59_1 (w15 hw) (w16 hw) (w17 hw) ?_
  refine Ow.aloadN (pc' := 5) B e59_4 ?_
  refine Ow.Go.old (fun o1 => ?_)
  refine Ow.callVirtual (pc' := 8) (W := 0) (k' := 0) (n' := 0) (argsL := []) (rest := []) (K := "java/lang/StringBuilder") B e59_5 (w156 hw) (w157 hw) (w159 hw) (w159 hw) (w158 hw) (w99 hw) (w160 hw) F.1 (con_getValue_26 hw G GS GI (pa0 := b) (pa1 := vb) o1 F.2.1) pd39 ?_
  intro vq2 h3 S4 q2 zh3
  obtain ⟨rfl, rfl, rfl⟩ := q2
  refine Ow.Go.nr (S' := [sr]) (st' := [(.ref vb)]) ?_
  refine Ow.astoreN (pc' := 9) (Ls' := #[vR sr, vR b, .val .null, vR vb, .unset]) B e59_8 ?_
  refine Ow.aloadN (pc' := 10) B e59_9 ?_
  refine Ow.Go.old (fun o5 => ?_)
  refine Ow.callVirtualN (pc' := 13) (W := 0) (k' := 0) (n' := 0) (argsL := []) (rest := []) (K := "java/lang/StringBuilder") B e59_10 (w161 hw) (w162 hw) (w128 hw) (w164 hw) (w165 hw) (w91 hw) (w166 hw) F.1 (con_length_28 hw G GS GI (pa0 := b) (px0 := (Int32.ofNat cs.length)) o5 F.1 F.2.2.2.1) pd28 ?_
  intro vq6 h7 S8 q6 zh7
  obtain ⟨rfl, rfl, rfl⟩ := q6
  refine Ow.Go.nr (S' := [sr]) (st' := [(.int (Int32.ofNat cs.length))]) ?_
  refine Ow.istore (pc' := 15) (Ls' := #[vR sr, vR b, .val .null, vR vb, vI (Int32.ofNat cs.length)]) B e59_13 ?_
  refine Ow.aloadN (pc' := 16) B e59_15 ?_
  refine Ow.Go.old (fun o9 => ?_)
  refine Ow.callVirtual (pc' := 19) (W := 0) (k' := 0) (n' := 0) (argsL := []) (rest := []) (K := "java/lang/StringBuilder") B e59_16 (w169 hw) (w136 hw) (w138 hw) (w138 hw) (w137 hw) (w99 hw) (w139 hw) F.1 (con_isLatin1_29 hw G GS GI (pa0 := b) o9 oc) pd13 ?_
  intro vq10 h11 S12 q10 zh11
  obtain ⟨rfl, rfl, rfl⟩ := q10
  refine Ow.Go.nr (S' := [sr]) (st' := [(.int 1)]) ?_
  refine Ow.ifF (pc' := 22) B e59_19 (by decide) ?_
  refine Ow.aloadN (pc' := 23) B e59_22 (Ow.iconst (pc' := 24) (x := 0) B e59_23 ?_)
  refine Ow.putfield (pc' := 27) (ty := .byte) B e59_24 (w25 hw) Via.refl C0 E0 (Or.inr ⟨(w21 hw), rfl, rfl⟩) (w5 hw) (Or.inl (by simp)) ?_
  intro h13 Wh13
  have Kh13 := Keep.of_wr Wh13
  have zh13 := Kh13.1
  have f14 : Fld Z h13 sr "java/lang/String" "coder" "B" (.int 0) := C0.same Wh13
  have f15 : Fld Z h13 sr "java/lang/String" "value" "[B" .null := V0.other Wh13 (Or.inr (slot_ne (a0 := a0) (C := "java/lang/String") (t := (.array .byte)) (t' := .byte) (Or.inr (w20 hw)) (Or.inr (w21 hw)) (by decide) (by decide) (by decide)))
  refine Ow.aloadN (pc' := 28) B e59_27 (Ow.aloadN (pc' := 29) B e59_28 (Ow.iconst (pc' := 30) (x := 0) B e59_29 (Ow.iload (pc' := 32) B e59_30 ?_)))
  have f16 := oa.keep Kh13 (Ow.ninS (by omega) Ow.nin0)
  refine Ow.Go.old (fun o17 => ?_)
  refine Ow.callStatic (pc' := 35) (W := 1) (k' := 1) (n' := 32) (argsL := [(.ref vb), (.int 0), (.int (Int32.ofNat cs.length))]) (rest := [(.ref sr)]) B e59_32 (w170 hw) (w171 hw) (w172 hw) (w173 hw) (gCor hw G GS GI (M := 16) (i := 0) (e' := cs.length) o17 (f16.pad (pad_rep (Ow.LB cs) (.int 0) (16 - cs.length))) (by rw [List.length_append, List.length_replicate, List.length_map]; omega) (by omega) (by omega) (by decide) (by omega) (by omega)) pd37 ?_
  intro vq18 h19 S20 q18 zh19
  obtain ⟨r21, k22, rfl, Kh19, br21, f23, rfl⟩ := q18
  have lr21 : (r21 : Nat) < h19.size := f23.lt
  have f24 : Arv Z h19 r21 k22 .byte (Int32.ofNat cs.length) (Ow.LB cs) (.int 0) := by have q := f23; rw [dtL] at q; exact q
  refine Ow.Go.norm (S' := [r21, sr]) (st' := [(.ref r21), (.ref sr)]) (fun _ q => q) rfl ?_
  have f25 := f15.keep Kh19 Ow.nin0
  have f26 := E0.keep Kh13
  have f27 := f26.keep Kh19
  refine Ow.putfield (pc' := 38) (ty := (.array .byte)) B e59_35 (w24 hw) Via.refl f25 f27 (Or.inr ⟨(w20 hw), rfl, rfl⟩) (w5 hw) (Or.inl (by simp)) ?_
  intro h28 Wh28
  have f29 := f14.keep Kh19 Ow.nin0
  have Kh28 := Keep.of_wr Wh28
  have zh28 := Kh28.1
  have f30 : Fld Z h28 sr "java/lang/String" "value" "[B" (.ref r21) := f25.same Wh28
  have f31 : Fld Z h28 sr "java/lang/String" "coder" "B" (.int 0) := f29.other Wh28 (Or.inr (slot_ne (a0 := a0) (C := "java/lang/String") (t := .byte) (t' := (.array .byte)) (Or.inr (w21 hw)) (Or.inr (w20 hw)) (by decide) (by decide) (by decide)))
  refine Ow.goto (pc' := 97) B e59_38 ?_
  have f32 := f27.keep Kh28
  have f33 := f24.keep Kh28 (Ow.ninS (by omega) Ow.nin0)
  exact Ow.retV (S' := []) B e59_97 (⟨r21, k22, rfl, ((((Keep.refl _ [sr]).trans Kh13 (allS (Or.inl (by simp)) all0)).trans Kh19 (fun _ q => nomatch q)).trans Kh28 (allS (Or.inl (by simp)) all0)), ⟨f32, f30, F.2.2.2.2.1, Or.inl ⟨f31, f33, ol⟩⟩, rfl⟩)
 ·refine Ow.Con.enter (Ls := #[vR sr, vR b, .val .null, .unset, .unset]) (plainFor_of_name pn1) O0 (hEW hw) (hSA hw) ?_
  intro p e s m below meth c B
  have z0 := Ow.old_le O0
  have lsr : (sr : Nat) < h0.size := E0.lt
  have lb : (b : Nat) < h0.size := F.lt
  have lvb : (vb : Nat) < h0.size := F.ltt
  refine Ow.aloadN (pc' := 1) B e59_0 ?_
  refine Ow.objInit (pc' := 4) (W := 0) B e59_1 (w15 hw) (w16 hw) (w17 hw) ?_
  refine Ow.aloadN (pc' := 5) B e59_4 ?_
  refine Ow.Go.old (fun o1 => ?_)
  refine Ow.callVirtual (pc' := 8) (W := 0) (k' := 0) (n' := 0) (argsL := []) (rest := []) (K := "java/lang/StringBuilder") B e59_5 (w156 hw) (w157 hw) (w159 hw) (w159 hw) (w158 hw) (w99 hw) (w160 hw) F.1 (con_getValue_26 hw G GS GI (pa0 := b) (pa1 := vb) o1 F.2.1) pd39 ?_
  intro vq2 h3 S4 q2 zh3
  obtain ⟨rfl, rfl, rfl⟩ := q2
  refine Ow.Go.nr (S' := [sr]) (st' := [(.ref vb)]) ?_
  refine Ow.astoreN (pc' := 9) (Ls' := #[vR sr, vR b, .val .null, vR vb, .unset]) B e59_8 ?_
  refine Ow.aloadN (pc' := 10) B e59_9 ?_
  refine Ow.Go.old (fun o5 => ?_)
  refine Ow.callVirtualN (pc' := 13) (W := 0) (k' := 0) (n' := 0) (argsL := []) (rest := []) (K := "java/lang/StringBuilder") B e59_10 (w161 hw) (w162 hw) (w128 hw) (w164 hw) (w165 hw) (w91 hw) (w166 hw) F.1 (con_length_28 hw G GS GI (pa0 := b) (px0 := (Int32.ofNat cs.length)) o5 F.1 F.2.2.2.1) pd28 ?_
  intro vq6 h7 S8 q6 zh7
  obtain ⟨rfl, rfl, rfl⟩ := q6
  refine Ow.Go.nr (S' := [sr]) (st' := [(.int (Int32.ofNat cs.length))]) ?_
  refine Ow.istore (pc' := 15) (Ls' := #[vR sr, vR b, .val .null, vR vb, vI (Int32.ofNat cs.length)]) B e59_13 ?_
  refine Ow.aloadN (pc' := 16) B e59_15 ?_
  refine Ow.Go.old (fun o9 => ?_)
  refine Ow.callVirtual (pc' := 19) (W := 0) (k' := 0) (n' := 0) (argsL := []) (rest := []) (K := "java/lang/StringBuilder") B e59_16 (w169 hw) (w136 hw) (w138 hw) (w138 hw) (w137 hw) (w99 hw) (w139 hw) F.1 (con_isLatin1_30 hw G GS GI (pa0 := b) o9 oc) pd13 ?_
  intro vq10 h11 S12 q10 zh11
  obtain ⟨rfl, rfl, rfl⟩ := q10
  refine Ow.Go.nr (S' := [sr]) (st' := [(.int 0)]) ?_
  refine Ow.ifT (pc' := 41) B e59_19 (by decide) ?_
  refine Ow.getstatic (pc' := 44) B e59_41 (w66 hw) Via.refl G.1 ?_
  refine Ow.ifF (pc' := 47) B e59_44 (feq (G.2.1)).1 ?_
  refine Ow.aloadN (pc' := 48) B e59_47 ?_
  refine Ow.getfield (pc' := 51) B e59_48 (w301 hw) Via.refl F.2.2.1 ?_
  refine Ow.ifT (pc' := 79) B e59_51 (by decide) ?_
  refine Ow.aloadN (pc' := 80) B e59_79 (Ow.iconst (pc' := 81) (x := 1) B e59_80 ?_)
  refine Ow.putfield (pc' := 84) (ty := .byte) B e59_81 (w25 hw) Via.refl C0 E0 (Or.inr ⟨(w21 hw), rfl, rfl⟩) (w5 hw) (Or.inl (by simp)) ?_
  intro h13 Wh13
  have Kh13 := Keep.of_wr Wh13
  have zh13 := Kh13.1
  have f14 : Fld Z h13 sr "java/lang/String" "coder" "B" (.int 1) := C0.same Wh13
  have f15 : Fld Z h13 sr "java/lang/String" "value" "[B" .null := V0.other Wh13 (Or.inr (slot_ne (a0 := a0) (C := "java/lang/String") (t := (.array .byte)) (t' := .byte) (Or.inr (w20 hw)) (Or.inr (w21 hw)) (by decide) (by decide) (by decide)))
  refine Ow.aloadN (pc' := 85) B e59_84 (Ow.aloadN (pc' := 86) B e59_85 (Ow.iconst (pc' := 87) (x := 0) B e59_86 (Ow.iload (pc' := 89) B e59_87 (Ow.iconst (pc' := 90) (x := 1) B e59_89 ?_))))
  refine Ow.ishl (pc' := 91) (z := (Int32.ofNat (2 * cs.length))) (hz := (Ow.nD (by omega))) B e59_90 ?_
  have f16 := oa.keep Kh13 (Ow.ninS (by omega) Ow.nin0)
  refine Ow.Go.old (fun o17 => ?_)
  refine Ow.callStatic (pc' := 94) (W := 1) (k' := 1) (n' := 32) (argsL := [(.ref vb), (.int 0), (.int (Int32.ofNat (2 * cs.length)))]) (rest := [(.ref sr)]) B e59_91 (w170 hw) (w171 hw) (w172 hw) (w173 hw) (gCor hw G GS GI (M := 32) (i := 0) (e' := (2 * cs.length)) o17 (f16.pad (pad_rep (Ow.UB cs) (.int 0) (32 - (2 * cs.length)))) (by rw [List.length_append, List.length_replicate, Ow.UBn]; omega) (by omega) (by omega) (by decide) (by omega) (by omega)) pd37 ?_
  intro vq18 h19 S20 q18 zh19
  obtain ⟨r21, k22, rfl, Kh19, br21, f23, rfl⟩ := q18
  have lr21 : (r21 : Nat) < h19.size := f23.lt
  have f24 : Arv Z h19 r21 k22 .byte (Int32.ofNat (2 * cs.length)) (Ow.UB cs) (.int 0) := by have q := f23; rw [dtU] at q; exact q
  refine Ow.Go.norm (S' := [r21, sr]) (st' := [(.ref r21), (.ref sr)]) (fun _ q => q) rfl ?_
  have f25 := f15.keep Kh19 Ow.nin0
  have f26 := E0.keep Kh13
  have f27 := f26.keep Kh19
  refine Ow.putfield (pc' := 97) (ty := (.array .byte)) B e59_94 (w24 hw) Via.refl f25 f27 (Or.inr ⟨(w20 hw), rfl, rfl⟩) (w5 hw) (Or.inl (by simp)) ?_
  intro h28 Wh28
  have f29 := f14.keep Kh19 Ow.nin0
  have Kh28 := Keep.of_wr Wh28
  have zh28 := Kh28.1
  have f30 : Fld Z h28 sr "java/lang/String" "value" "[B" (.ref r21) := f25.same Wh28
  have f31 : Fld Z h28 sr "java/lang/String" "coder" "B" (.int 1) := f29.other Wh28 (Or.inr (slot_ne (a0 := a0) (C := "java/lang/String") (t := .byte) (t' := (.array .byte)) (Or.inr (w21 hw)) (Or.inr (w20 hw)) (by decide) (by decide) (by decide)))
  have f32 := f27.keep Kh28
  have f33 := f24.keep Kh28 (Ow.ninS (by omega) Ow.nin0)
  exact Ow.retV (S' := []) B e59_97 (⟨r21, k22, rfl, ((((Keep.refl _ [sr]).trans Kh13 (allS (Or.inl (by simp)) all0)).trans Kh19 (fun _ q => nomatch q)).trans Kh28 (allS (Or.inl (by simp)) all0)), ⟨f32, f30, F.2.2.2.2.1, Or.inr ⟨f31, f33, ou⟩⟩, rfl⟩)
theorem gSi2 (hw : Hw a0 Z) (G : Ow.Glo Z cz sf) (GS : GlS Z) {iof : Value} (GI : Sta Z Z.heap "jdk/internal/util/Preconditions" "IOOBE_FORMATTER" "Ljava/util/function/BiFunction;" iof ∧ iof.isRef = true) {h0 : Heap} (O0 : Old Z n0 h0) {sr b vb : Nat} {kv : ClassId} {cs : List Int32} (E0 : Exa Z h0 sr "java/lang/String") (V0 : Fld Z h0 sr "java/lang/String" "value" "[B" .null) (C0 : Fld Z h0 sr "java/lang/String" "coder" "B" (.int 0)) (F : Sbd Z h0 b vb kv cs) (hsr : n0 ≤ sr) (hn1 : sr ≠ b) (hn2 : sr ≠ vb) (hc : cs.length ≤ 6) :
    Ow.Con l Z EL1 n0 my63 jdk_42_method_53_code 2 (Option.none : Option Jvm.ClassFile.FieldType) [] ({ frames := 4, cells := 1, slots := 32, locals := 65 } : Room) #[(.ref sr), (.ref b)] [sr] h0 (fun v h S' => ∃ t : Nat, ∃ kt : ClassId, v = none ∧ Keep h0 h [sr] ∧ Ow.Chs Z h sr t kt cs ∧ S' = []) := by
 refine Ow.Con.enter (Ls := #[vR sr, vR b]) (plainFor_of_name pn1) O0 (hEW hw) (hSA hw) ?_
 intro p e s m below meth c B
 have z0 := Ow.old_le O0
 have lsr : (sr : Nat) < h0.size := E0.lt
 have lb : (b : Nat) < h0.size := F.lt
 have lvb : (vb : Nat) < h0.size := F.ltt
 refine Ow.aloadN (pc' := 1) B e63_0 (Ow.aloadN (pc' := 2) B e63_1 (Ow.aconstNull (pc' := 3) B e63_2 ?_))
 refine Ow.Go.old (fun o1 => ?_)
 refine Ow.callInit (pc' := 6) (W := 0) (k' := 1) (n' := 32) (argsL := [(.ref b), .null]) (rest := []) B e63_3 (w153 hw) (w154 hw) (w6 hw) (w155 hw) (gSi1 hw G GS GI o1 E0 V0 C0 F (by omega) (by omega) (by omega) hc) pd40 ?_
 intro vq2 h3 S4 q2 zh3
 obtain ⟨t5, k6, rfl, Kh3, f7, rfl⟩ := q2
 refine Ow.Go.nr (S' := [sr]) (st' := []) ?_
 exact Ow.retV (S' := []) B e63_6 (⟨t5, k6, rfl, ((Keep.refl _ [sr]).trans Kh3 (allS (Or.inl (by simp)) all0)), f7, rfl⟩)
theorem gSts (hw : Hw a0 Z) (G : Ow.Glo Z cz sf) (GS : GlS Z) {iof : Value} (GI : Sta Z Z.heap "jdk/internal/util/Preconditions" "IOOBE_FORMATTER" "Ljava/util/function/BiFunction;" iof ∧ iof.isRef = true) {h0 : Heap} (O0 : Old Z n0 h0) {b vb : Nat} {kv : ClassId} {cs : List Int32} (F : Sbd Z h0 b vb kv cs) (hc : cs.length ≤ 6) :
    Ow.Con l Z EL1 n0 my64 jdk_67_method_42_code 1 (Option.some (Jvm.ClassFile.FieldType.object "java/lang/String")) [] ({ frames := 5, cells := 2, slots := 36, locals := 79 } : Room) #[(.ref b)] [] h0 (fun v h S' => ∃ r : Nat, ∃ t : Nat, ∃ kt : ClassId, v = some (.ref r) ∧ Keep h0 h [] ∧ Ow.Chs Z h r t kt cs ∧ S' = []) := by
 refine Ow.Con.enter (Ls := #[vR b]) (plainFor_of_name pn5) O0 (hEW hw) (hSA hw) ?_
 intro p e s m below meth c B
 have z0 := Ow.old_le O0
 have lb : (b : Nat) < h0.size := F.lt
 have lvb : (vb : Nat) < h0.size := F.ltt
 refine Ow.newObj (pc' := 3) (k' := 1) (n' := 4) B e64_0 (w149 hw) (w5 hw) (w6 hw) ?_
 intro h2 a1 ga1 ba1 Kh2 Aa1 Da1
 have zh2 := Kh2.1
 have la1 : (a1 : Nat) < h2.size := Aa1.lt
 have f3 : Fld Z h2 a1 "java/lang/String" "value" "[B" .null := Da1 (Or.inr (w20 hw)) (ty := (.array .byte)) (by decide)
 have f4 : Fld Z h2 a1 "java/lang/String" "coder" "B" (.int 0) := Da1 (Or.inr (w21 hw)) (ty := .byte) (by decide)
 refine Ow.dup (pc' := 4) B e64_3 (Ow.aloadN (pc' := 5) B e64_4 ?_)
 refine Ow.Go.old (fun o5 => ?_)
 have f6 := F.keep Kh2 Ow.nin0 Ow.nin0
 refine Ow.callInit (pc' := 8) (W := 1) (k' := 2) (n' := 36) (argsL := [(.ref b)]) (rest := [(.ref a1)]) B e64_5 (w150 hw) (w151 hw) (w6 hw) (w152 hw) (gSi2 hw G GS GI o5 Aa1 f3 f4 f6 (by omega) (by omega) (by omega) hc) pd41 ?_
 intro vq7 h8 S9 q7 zh8
 obtain ⟨t10, k11, rfl, Kh8, f12, rfl⟩ := q7
 refine Ow.Go.nr (S' := [a1]) (st' := [(.ref a1)]) ?_
 exact Ow.retA (S' := []) (t := (.object "java/lang/String")) B e64_8 (⟨a1, t10, k11, rfl, (((Keep.refl _ []).trans Kh2 (fun _ q => nomatch q)).trans Kh8 (allS (Or.inr (by omega)) all0)), f12, rfl⟩)
theorem gTsA (hw : Hw a0 Z) (G : Ow.Glo Z cz sf) (GS : GlS Z) {iof : Value} (GI : Sta Z Z.heap "jdk/internal/util/Preconditions" "IOOBE_FORMATTER" "Ljava/util/function/BiFunction;" iof ∧ iof.isRef = true) {h0 : Heap} (O0 : Old Z n0 h0) {tw : Nat} (E : Exa Z h0 tw "com/example/ply3/ply3/TextWriter") (hw0 : n0 ≤ tw) (X1 : Fld Z h0 tw "com/example/ply3/ply3/TextWriter" "text" "Ljava/lang/StringBuilder;" .null) (X2 : Fld Z h0 tw "com/example/ply3/ply3/TextWriter" "whole" "Ljava/lang/String;" .null) :
    Ow.Con l Z EL1 n0 my65 prog_33_method_8_code 1 (Option.some (Jvm.ClassFile.FieldType.object "java/lang/String")) [] ({ frames := 0, cells := 2, slots := 4, locals := 0 } : Room) #[(.ref tw)] [] h0 (fun v h S' => ∃ r : Nat, ∃ t : Nat, ∃ kt : ClassId, v = some (.ref r) ∧ Keep h0 h [] ∧ Ow.Chs Z h r t kt [] ∧ S' = []) := by
 refine Ow.Con.enter (Ls := #[vR tw]) (plainFor_of_name pn6) O0 (hEW hw) (hSA hw) ?_
 intro p e s m below meth c B
 have z0 := Ow.old_le O0
 have ltw : (tw : Nat) < h0.size := E.lt
 refine Ow.aloadN (pc' := 1) B e65_0 ?_
 refine Ow.getfield (pc' := 4) B e65_1 (w51 hw) Via.refl X1 ?_
 refine Ow.ifnullT (pc' := 15) B e65_4 ?_
 refine Ow.aloadN (pc' := 16) B e65_15 ?_
 refine Ow.getfield (pc' := 19) B e65_16 (w53 hw) Via.refl X2 ?_
 refine Ow.ifnonnullF (pc' := 22) B e65_19 ?_
 refine Ow.ldcText (pc' := 24) (k' := 2) (n' := 4) (nn := 0) (vs := []) (z := 0) B e65_22 (w55 hw) (by decide) ⟨by decide, by decide⟩ (by decide) (by decide) ?_
 intro h2 a1 t3 kt3 Kh2 Ea1 Ca1 Va1 At3 Na1
 have zh2 := Kh2.1
 have la1 : (a1 : Nat) < h2.size := Ea1.lt
 have lt3 : (t3 : Nat) < h2.size := At3.lt
 refine Ow.goto (pc' := 31) B e65_24 ?_
 exact Ow.retA (S' := []) (t := (.object "java/lang/String")) B e65_31 (⟨a1, t3, kt3, rfl, ((Keep.refl _ []).trans Kh2 (fun _ q => nomatch q)), Ow.Chs.nil Ea1 Va1 Ca1 At3, rfl⟩)
theorem gTsB (hw : Hw a0 Z) (G : Ow.Glo Z cz sf) (GS : GlS Z) {iof : Value} (GI : Sta Z Z.heap "jdk/internal/util/Preconditions" "IOOBE_FORMATTER" "Ljava/util/function/BiFunction;" iof ∧ iof.isRef = true) {h0 : Heap} (O0 : Old Z n0 h0) {tw : Nat} (E : Exa Z h0 tw "com/example/ply3/ply3/TextWriter") (hw0 : n0 ≤ tw) {wn wt : Nat} {wk : ClassId} {cs : List Int32} (X1 : Fld Z h0 tw "com/example/ply3/ply3/TextWriter" "text" "Ljava/lang/StringBuilder;" .null) (X2 : Fld Z h0 tw "com/example/ply3/ply3/TextWriter" "whole" "Ljava/lang/String;" (.ref wn)) (FW : Ow.Chs Z h0 wn wt wk cs) (hwn : wn < tw) (hwt : wt < tw) (hc : cs.length + 2 ≤ 16) :
    Ow.Con l Z EL1 n0 my65 prog_33_method_8_code 1 (Option.some (Jvm.ClassFile.FieldType.object "java/lang/String")) [] ({ frames := 0, cells := 0, slots := 0, locals := 0 } : Room) #[(.ref tw)] [] h0 (fun v h S' => v = some (.ref wn) ∧ h = h0 ∧ S' = []) := by
 refine Ow.Con.enter (Ls := #[vR tw]) (plainFor_of_name pn6) O0 (hEW hw) (hSA hw) ?_
 intro p e s m below meth c B
 have z0 := Ow.old_le O0
 have ltw : (tw : Nat) < h0.size := E.lt
 have lwn : (wn : Nat) < h0.size := FW.lt
 have lwt : (wt : Nat) < h0.size := FW.ltt
 refine Ow.aloadN (pc' := 1) B e65_0 ?_
 refine Ow.getfield (pc' := 4) B e65_1 (w51 hw) Via.refl X1 ?_
 refine Ow.ifnullT (pc' := 15) B e65_4 ?_
 refine Ow.aloadN (pc' := 16) B e65_15 ?_
 refine Ow.getfield (pc' := 19) B e65_16 (w53 hw) Via.refl X2 ?_
 refine Ow.ifnonnullT (pc' := 27) B e65_19 ?_
 refine Ow.aloadN (pc' := 28) B e65_27 ?_
 refine Ow.getfield (pc' := 31) B e65_28 (w53 hw) Via.refl X2 ?_
 exact Ow.retA (S' := []) (t := (.object "java/lang/String")) B e65_31 (⟨rfl, rfl, rfl⟩)
theorem gTsC (hw : Hw a0 Z) (G : Ow.Glo Z cz sf) (GS : GlS Z) {iof : Value} (GI : Sta Z Z.heap "jdk/internal/util/Preconditions" "IOOBE_FORMATTER" "Ljava/util/function/BiFunction;" iof ∧ iof.isRef = true) {h0 : Heap} (O0 : Old Z n0 h0) {tw : Nat} (E : Exa Z h0 tw "com/example/ply3/ply3/TextWriter") (hw0 : n0 ≤ tw) {b vb : Nat} {kv : ClassId} {cs : List Int32} (X1 : Fld Z h0 tw "com/example/ply3/ply3/TextWriter" "text" "Ljava/lang/StringBuilder;" (.ref b)) (X2 : Fld Z h0 tw "com/example/ply3/ply3/TextWriter" "whole" "Ljava/lang/String;" .null) (F : Sbd Z h0 b vb kv cs) (hwb : tw < b) (hwv : tw < vb) (hne : b ≠ vb) (hc : cs.length + 2 ≤ 16) (hc6 : cs.length ≤ 6) :
    Ow.Con l Z EL1 n0 my65 prog_33_method_8_code 1 (Option.some (Jvm.ClassFile.FieldType.object "java/lang/String")) [] ({ frames := 6, cells := 2, slots := 36, locals := 91 } : Room) #[(.ref tw)] [] h0 (fun v h S' => ∃ r : Nat, ∃ t : Nat, ∃ kt : ClassId, v = some (.ref r) ∧ Keep h0 h [] ∧ Ow.Chs Z h r t kt cs ∧ S' = []) := by
 refine Ow.Con.enter (Ls := #[vR tw]) (plainFor_of_name pn6) O0 (hEW hw) (hSA hw) ?_
 intro p e s m below meth c B
 have z0 := Ow.old_le O0
 have ltw : (tw : Nat) < h0.size := E.lt
 have lb : (b : Nat) < h0.size := F.lt
 have lvb : (vb : Nat) < h0.size := F.ltt
 refine Ow.aloadN (pc' := 1) B e65_0 ?_
 refine Ow.getfield (pc' := 4) B e65_1 (w51 hw) Via.refl X1 ?_
 refine Ow.ifnullF (pc' := 7) B e65_4 ?_
 refine Ow.aloadN (pc' := 8) B e65_7 ?_
 refine Ow.getfield (pc' := 11) B e65_8 (w51 hw) Via.refl X1 ?_
 refine Ow.Go.old (fun o1 => ?_)
 refine Ow.callVirtual (pc' := 14) (W := 0) (k' := 2) (n' := 36) (argsL := []) (rest := []) (K := "java/lang/StringBuilder") B e65_11 (w144 hw) (w145 hw) (w147 hw) (w147 hw) (w146 hw) (w91 hw) (w148 hw) (F).1 (gSts hw G GS GI o1 F hc6) pd42 ?_
 intro vq2 h3 S4 q2 zh3
 obtain ⟨r5, t6, k7, rfl, Kh3, f8, rfl⟩ := q2
 refine Ow.Go.nr (S' := []) (st' := [(.ref r5)]) ?_
 exact Ow.retA (S' := []) (t := (.object "java/lang/String")) B e65_14 (⟨r5, t6, k7, rfl, ((Keep.refl _ []).trans Kh3 (fun _ q => nomatch q)), f8, rfl⟩)
theorem gAt (hw : Hw a0 Z) (G : Ow.Glo Z cz sf) (GS : GlS Z) {iof : Value} (GI : Sta Z Z.heap "jdk/internal/util/Preconditions" "IOOBE_FORMATTER" "Ljava/util/function/BiFunction;" iof ∧ iof.isRef = true) {h0 : Heap} (O0 : Old Z n0 h0) {r t ex i : Nat} {kt kx : ClassId} {cs : List Int32} (F : Ow.Chs Z h0 r t kt cs) (XA : Arv Z h0 ex kx .char 6 (Ow.CA cs) (.int 0)) (hc : cs.length ≤ 6) (hi : i < 6) :
    Ow.Con l Z EL1 n0 my66 method_6_code 4 (Option.some Jvm.ClassFile.FieldType.boolean) [] ({ frames := 5, cells := 0, slots := 0, locals := 66 } : Room) #[(.ref r), (.ref ex), (.int (Int32.ofNat cs.length)), (.int (Int32.ofNat i))] [] h0 (fun v h S' => v = some (.int 1) ∧ h = h0 ∧ S' = []) := by
 refine Ow.Con.enter (Ls := #[vR r, vR ex, vI (Int32.ofNat cs.length), vI (Int32.ofNat i)]) (plainFor_of_name pn8) O0 (hEW hw) (hSA hw) ?_
 intro p e s m below meth c B
 have z0 := Ow.old_le O0
 refine Ow.iloadN (pc' := 1) B e66_0 (Ow.iloadN (pc' := 2) B e66_1 ?_)
 by_cases c2 : (Int32.ofNat i) < (Int32.ofNat cs.length)
 ·have n2 := Ow.nlm c2
  refine Ow.icmpF (pc' := 5) B e66_2 (tlt c2).2.1 ?_
  refine Ow.aloadN (pc' := 6) B e66_5 (Ow.iloadN (pc' := 7) B e66_6 ?_)
  obtain ⟨y, hy⟩ : ∃ y, cs[i]? = some y := ⟨_, List.getElem?_eq_getElem (by omega)⟩
  refine Ow.Go.old (fun o1 => ?_)
  refine Ow.callVirtual (pc' := 10) (W := 0) (k' := 0) (n' := 0) (argsL := [(.int (Int32.ofNat i))]) (rest := []) (K := "java/lang/String") B e66_7 (w188 hw) (w189 hw) (w191 hw) (w191 hw) (w190 hw) (w6 hw) (w192 hw) (F).1 (gCha hw G GS GI (x := y) o1 F hy (by omega)) pd43 ?_
  intro vq2 h3 S4 q2 zh3
  obtain ⟨rfl, rfl, rfl⟩ := q2
  refine Ow.Go.nr (S' := []) (st' := [(.int y)]) ?_
  refine Ow.aloadN (pc' := 11) B e66_10 (Ow.iloadN (pc' := 12) B e66_11 ?_)
  refine Ow.caload (pc' := 13) (v := (.int y)) B e66_12 XA ⟨Ow.nn, Ow.nlT (n := 6) (by omega)⟩ (by rw [Ow.nc]; exact Ow.gD (Ow.CAa hy)) ?_
  refine Ow.icmpF (pc' := 16) B e66_13 (teq (rfl)).2 ?_
  refine Ow.iconst (pc' := 17) (x := 1) B e66_16 ?_
  refine Ow.goto (pc' := 21) B e66_17 ?_
  exact Ow.retI (S' := []) (t := .boolean) B e66_21 (⟨rfl, rfl, rfl⟩)
 ·have n2 := Ow.nlmF c2
  refine Ow.icmpT (pc' := 16) B e66_2 (flt c2).2.1 ?_
  refine Ow.iconst (pc' := 17) (x := 1) B e66_16 ?_
  refine Ow.goto (pc' := 21) B e66_17 ?_
  exact Ow.retI (S' := []) (t := .boolean) B e66_21 (⟨rfl, rfl, rfl⟩)
theorem segC (hw : Hw a0 Z) (G : Ow.Glo Z cz sf) (GS : GlS Z) {iof : Value} (GI : Sta Z Z.heap "jdk/internal/util/Preconditions" "IOOBE_FORMATTER" "Ljava/util/function/BiFunction;" iof ∧ iof.isRef = true) {p : Program} {e : Env} {s : State} {m : MethodId} {args : Array Value} {below : List Frame} {meth : Method} {c : ClassFile.Code} (B : Ow.Bdy p meth c Z EL1 a0 code maxLocals ret x.name) {h0 : Heap} (O0 : Old Z n0 h0) {x0 x1 x2 x3 qa0 qa1 qa2 ea0 ea1 ea2 : Int32} {s0 s1 s2 c0 c1 c2 ex : Nat} {kx : ClassId} {tw : Nat} (E : Exa Z h0 tw "com/example/ply3/ply3/TextWriter") (hw0 : n0 ≤ tw) {b vb : Nat} {kv : ClassId} {cs : List Int32} (X1 : Fld Z h0 tw "com/example/ply3/ply3/TextWriter" "text" "Ljava/lang/StringBuilder;" (.ref b)) (X2 : Fld Z h0 tw "com/example/ply3/ply3/TextWriter" "whole" "Ljava/lang/String;" .null) (F : Sbd Z h0 b vb kv cs) (hwb : tw < b) (hwv : tw < vb) (hne : b ≠ vb) (hc : cs.length + 2 ≤ 16) (XA : Arv Z h0 ex kx .char 6 (Ow.CA cs) (.int 0)) (hc6 : cs.length ≤ 6) (hK0 : qa1 = 0 → qa2 = 0 → ¬ qa0 = 2) (hK1 : qa0 = 0 → qa2 = 0 → ¬ qa1 = 2) (hK2 : qa0 = 0 → qa1 = 0 → ¬ qa2 = 2) :
  Ow.Go p l e room_1 s m args below meth c Z EL1 n0 x.cls (fun v _ _ => v = some (.int 1)) [vb] h0 52 2400 163 #[vI x0, vI x1, vI x2, vI x3, vI qa0, vI ea0, vI qa1, vI ea1, vI qa2, vI ea2, vR s0, vR s1, vR s2, vR c0, vR c1, vR c2, vR ex, vR tw, vI (Int32.ofNat cs.length), .unset, .unset, .unset, .unset, .unset] [] := by
 have z0 := Ow.old_le O0
 have ltw : (tw : Nat) < h0.size := E.lt
 have lb : (b : Nat) < h0.size := F.lt
 have lvb : (vb : Nat) < h0.size := F.ltt
 refine Ow.aload (pc' := 165) B at_163 ?_
 refine Ow.Go.old (fun o1 => ?_)
 refine Ow.callVirtual (pc' := 168) (W := 0) (k' := 54) (n' := 2436) (argsL := []) (rest := []) (K := "com/example/ply3/ply3/TextWriter") B at_165 (w46 hw) (w47 hw) (w49 hw) (w49 hw) (w48 hw) (w31 hw) (w50 hw) E (gTsC hw G GS GI o1 E (by omega) X1 X2 F (by omega) (by omega) (by omega) (by first|omega|(simp;omega)|simp) (by first|omega|(simp;omega)|simp)) pd42 ?_
 intro vq2 h3 S4 q2 zh3
 obtain ⟨r5, t6, k7, rfl, Kh3, f8, rfl⟩ := q2
 have lr5 : (r5 : Nat) < h3.size := f8.lt
 have lt6 : (t6 : Nat) < h3.size := f8.ltt
 refine Ow.Go.nr (S' := [vb]) (st' := [(.ref r5)]) ?_
 refine Ow.astore (pc' := 170) (Ls' := #[vI x0, vI x1, vI x2, vI x3, vI qa0, vI ea0, vI qa1, vI ea1, vI qa2, vI ea2, vR s0, vR s1, vR s2, vR c0, vR c1, vR c2, vR ex, vR tw, vI (Int32.ofNat cs.length), vR r5, .unset, .unset, .unset, .unset]) B at_168 ?_
 refine Ow.aload (pc' := 172) B at_170 ?_
 refine Ow.Go.old (fun o9 => ?_)
 refine Ow.callVirtual (pc' := 175) (W := 0) (k' := 54) (n' := 2436) (argsL := []) (rest := []) (K := "java/lang/String") B at_172 (w56 hw) (w57 hw) (w59 hw) (w59 hw) (w58 hw) (w6 hw) (w60 hw) (f8).1 (gLen hw G GS GI o9 f8 (by first|omega|(simp;omega)|simp)) pd28 ?_
 intro vq10 h11 S12 q10 zh11
 obtain ⟨rfl, rfl, rfl⟩ := q10
 refine Ow.Go.nr (S' := [vb]) (st' := [(.int (Int32.ofNat cs.length))]) ?_
 refine Ow.iload (pc' := 177) B at_175 ?_
 refine Ow.icmpF (pc' := 180) B at_177 (teq (rfl)).2 ?_
 refine Ow.aload (pc' := 182) B at_180 (Ow.aload (pc' := 184) B at_182 (Ow.iload (pc' := 186) B at_184 (Ow.iconst (pc' := 187) (x := 0) B at_186 ?_)))
 refine Ow.Go.old (fun o13 => ?_)
 have f14 := XA.keep Kh3 Ow.nin0
 refine Ow.callStatic (pc' := 190) (W := 0) (k' := 54) (n' := 2436) (argsL := [(.ref r5), (.ref ex), (.int (Int32.ofNat cs.length)), (.int 0)]) (rest := []) B at_187 (w67 hw) (w68 hw) (w2 hw) (w69 hw) (gAt hw G GS GI (i := 0) o13 f8 f14 (by first|omega|(simp;omega)|simp) (by omega)) pd47 ?_
 intro vq15 h16 S17 q15 zh16
 obtain ⟨rfl, rfl, rfl⟩ := q15
 refine Ow.Go.nr (S' := [vb]) (st' := [(.int 1)]) ?_
 refine Ow.ifF (pc' := 193) B at_190 (by decide) ?_
 refine Ow.aload (pc' := 195) B at_193 (Ow.aload (pc' := 197) B at_195 (Ow.iload (pc' := 199) B at_197 (Ow.iconst (pc' := 200) (x := 1) B at_199 ?_)))
 refine Ow.Go.old (fun o18 => ?_)
 refine Ow.callStatic (pc' := 203) (W := 0) (k' := 54) (n' := 2436) (argsL := [(.ref r5), (.ref ex), (.int (Int32.ofNat cs.length)), (.int 1)]) (rest := []) B at_200 (w67 hw) (w68 hw) (w2 hw) (w69 hw) (gAt hw G GS GI (i := 1) o18 f8 f14 (by first|omega|(simp;omega)|simp) (by omega)) pd47 ?_
 intro vq19 h20 S21 q19 zh20
 obtain ⟨rfl, rfl, rfl⟩ := q19
 refine Ow.Go.nr (S' := [vb]) (st' := [(.int 1)]) ?_
 refine Ow.ifF (pc' := 206) B at_203 (by decide) ?_
 refine Ow.aload (pc' := 208) B at_206 (Ow.aload (pc' := 210) B at_208 (Ow.iload (pc' := 212) B at_210 (Ow.iconst (pc' := 213) (x := 2) B at_212 ?_)))
 refine Ow.Go.old (fun o22 => ?_)
 refine Ow.callStatic (pc' := 216) (W := 0) (k' := 54) (n' := 2436) (argsL := [(.ref r5), (.ref ex), (.int (Int32.ofNat cs.length)), (.int 2)]) (rest := []) B at_213 (w67 hw) (w68 hw) (w2 hw) (w69 hw) (gAt hw G GS GI (i := 2) o22 f8 f14 (by first|omega|(simp;omega)|simp) (by omega)) pd47 ?_
 intro vq23 h24 S25 q23 zh24
 obtain ⟨rfl, rfl, rfl⟩ := q23
 refine Ow.Go.nr (S' := [vb]) (st' := [(.int 1)]) ?_
 refine Ow.ifF (pc' := 219) B at_216 (by decide) ?_
 refine Ow.aload (pc' := 221) B at_219 (Ow.aload (pc' := 223) B at_221 (Ow.iload (pc' := 225) B at_223 (Ow.iconst (pc' := 226) (x := 3) B at_225 ?_)))
 refine Ow.Go.old (fun o26 => ?_)
 refine Ow.callStatic (pc' := 229) (W := 0) (k' := 54) (n' := 2436) (argsL := [(.ref r5), (.ref ex), (.int (Int32.ofNat cs.length)), (.int 3)]) (rest := []) B at_226 (w67 hw) (w68 hw) (w2 hw) (w69 hw) (gAt hw G GS GI (i := 3) o26 f8 f14 (by first|omega|(simp;omega)|simp) (by omega)) pd47 ?_
 intro vq27 h28 S29 q27 zh28
 obtain ⟨rfl, rfl, rfl⟩ := q27
 refine Ow.Go.nr (S' := [vb]) (st' := [(.int 1)]) ?_
 refine Ow.ifF (pc' := 232) B at_229 (by decide) ?_
 refine Ow.aload (pc' := 234) B at_232 (Ow.aload (pc' := 236) B at_234 (Ow.iload (pc' := 238) B at_236 (Ow.iconst (pc' := 239) (x := 4) B at_238 ?_)))
 refine Ow.Go.old (fun o30 => ?_)
 refine Ow.callStatic (pc' := 242) (W := 0) (k' := 54) (n' := 2436) (argsL := [(.ref r5), (.ref ex), (.int (Int32.ofNat cs.length)), (.int 4)]) (rest := []) B at_239 (w67 hw) (w68 hw) (w2 hw) (w69 hw) (gAt hw G GS GI (i := 4) o30 f8 f14 (by first|omega|(simp;omega)|simp) (by omega)) pd47 ?_
 intro vq31 h32 S33 q31 zh32
 obtain ⟨rfl, rfl, rfl⟩ := q31
 refine Ow.Go.nr (S' := [vb]) (st' := [(.int 1)]) ?_
 refine Ow.ifF (pc' := 245) B at_242 (by decide) ?_
 refine Ow.aload (pc' := 247) B at_245 (Ow.aload (pc' := 249) B at_247 (Ow.iload (pc' := 251) B at_249 (Ow.iconst (pc' := 252) (x := 5) B at_251 ?_)))
 refine Ow.Go.old (fun o34 => ?_)
 refine Ow.callStatic (pc' := 255) (W := 0) (k' := 54) (n' := 2436) (argsL := [(.ref r5), (.ref ex), (.int (Int32.ofNat cs.length)), (.int 5)]) (rest := []) B at_252 (w67 hw) (w68 hw) (w2 hw) (w69 hw) (gAt hw G GS GI (i := 5) o34 f8 f14 (by first|omega|(simp;omega)|simp) (by omega)) pd47 ?_
 intro vq35 h36 S37 q35 zh36
 obtain ⟨rfl, rfl, rfl⟩ := q35
 refine Ow.Go.nr (S' := [vb]) (st' := [(.int 1)]) ?_
 refine Ow.ifF (pc' := 258) B at_255 (by decide) ?_
 refine Ow.iconst (pc' := 259) (x := 1) B at_258 ?_
 refine Ow.goto (pc' := 263) B at_259 ?_
 refine Ow.istore (pc' := 265) (Ls' := #[vI x0, vI x1, vI x2, vI x3, vI qa0, vI ea0, vI qa1, vI ea1, vI qa2, vI ea2, vR s0, vR s1, vR s2, vR c0, vR c1, vR c2, vR ex, vR tw, vI (Int32.ofNat cs.length), vR r5, vI 1, .unset, .unset, .unset]) B at_263 ?_
 refine Ow.iload (pc' := 267) B at_265 ?_
 by_cases c38 : qa0 = (0 : Int32)
 ·refine Ow.ifT (pc' := 274) B at_267 (teq c38).1 ?_
  refine Ow.iconst (pc' := 275) (x := 0) B at_274 (Ow.iload (pc' := 277) B at_275 ?_)
  by_cases c39 : qa1 = (0 : Int32)
  ·refine Ow.ifT (pc' := 284) B at_277 (teq c39).1 ?_
   refine Ow.iconst (pc' := 285) (x := 0) B at_284 ?_
   refine Ow.iadd (pc' := 286) (z := 0) B at_285 ?_
   refine Ow.iload (pc' := 288) B at_286 ?_
   by_cases c40 : qa2 = (0 : Int32)
   ·refine Ow.ifT (pc' := 295) B at_288 (teq c40).1 ?_
    refine Ow.iconst (pc' := 296) (x := 0) B at_295 ?_
    refine Ow.iadd (pc' := 297) (z := 0) B at_296 ?_
    refine Ow.istore (pc' := 299) (Ls' := #[vI x0, vI x1, vI x2, vI x3, vI qa0, vI ea0, vI qa1, vI ea1, vI qa2, vI ea2, vR s0, vR s1, vR s2, vR c0, vR c1, vR c2, vR ex, vR tw, vI (Int32.ofNat cs.length), vR r5, vI 1, vI 0, .unset, .unset]) B at_297 ?_
    refine Ow.iload (pc' := 301) B at_299 (Ow.iconst (pc' := 302) (x := 1) B at_301 ?_)
    refine Ow.icmpT (pc' := 378) B at_302 (by decide) ?_
    refine Ow.iload (pc' := 380) B at_378 ?_
    exact Ow.retI (S' := []) (t := .boolean) B at_380 (rfl)
   ·refine Ow.ifF (pc' := 291) B at_288 (feq c40).1 ?_
    refine Ow.iconst (pc' := 292) (x := 1) B at_291 ?_
    refine Ow.goto (pc' := 296) B at_292 ?_
    refine Ow.iadd (pc' := 297) (z := 1) B at_296 ?_
    refine Ow.istore (pc' := 299) (Ls' := #[vI x0, vI x1, vI x2, vI x3, vI qa0, vI ea0, vI qa1, vI ea1, vI qa2, vI ea2, vR s0, vR s1, vR s2, vR c0, vR c1, vR c2, vR ex, vR tw, vI (Int32.ofNat cs.length), vR r5, vI 1, vI 1, .unset, .unset]) B at_297 ?_
    refine Ow.iload (pc' := 301) B at_299 (Ow.iconst (pc' := 302) (x := 1) B at_301 ?_)
    refine Ow.icmpF (pc' := 305) B at_302 (by decide) ?_
    refine Ow.iload (pc' := 307) B at_305 ?_
    refine Ow.ifT (pc' := 315) B at_307 (teq (c38)).1 ?_
    refine Ow.iload (pc' := 317) B at_315 ?_
    refine Ow.ifT (pc' := 325) B at_317 (teq (c39)).1 ?_
    refine Ow.iload (pc' := 327) B at_325 ?_
    refine Ow.istore (pc' := 329) (Ls' := #[vI x0, vI x1, vI x2, vI x3, vI qa0, vI ea0, vI qa1, vI ea1, vI qa2, vI ea2, vR s0, vR s1, vR s2, vR c0, vR c1, vR c2, vR ex, vR tw, vI (Int32.ofNat cs.length), vR r5, vI 1, vI 1, vI qa2, .unset]) B at_327 ?_
    refine Ow.iload (pc' := 331) B at_329 ?_
    refine Ow.ifT (pc' := 339) B at_331 (teq (c38)).1 ?_
    refine Ow.iload (pc' := 341) B at_339 ?_
    refine Ow.ifT (pc' := 349) B at_341 (teq (c39)).1 ?_
    refine Ow.aload (pc' := 351) B at_349 ?_
    refine Ow.astore (pc' := 353) (Ls' := #[vI x0, vI x1, vI x2, vI x3, vI qa0, vI ea0, vI qa1, vI ea1, vI qa2, vI ea2, vR s0, vR s1, vR s2, vR c0, vR c1, vR c2, vR ex, vR tw, vI (Int32.ofNat cs.length), vR r5, vI 1, vI 1, vI qa2, vR s2]) B at_351 ?_
    refine Ow.iload (pc' := 355) B at_353 (Ow.iconst (pc' := 356) (x := 2) B at_355 ?_)
    refine Ow.icmpT (pc' := 378) B at_356 (feq (hK2 (c38) (c39))).2 ?_
    refine Ow.iload (pc' := 380) B at_378 ?_
    exact Ow.retI (S' := []) (t := .boolean) B at_380 (rfl)
  ·refine Ow.ifF (pc' := 280) B at_277 (feq c39).1 ?_
   refine Ow.iconst (pc' := 281) (x := 1) B at_280 ?_
   refine Ow.goto (pc' := 285) B at_281 ?_
   refine Ow.iadd (pc' := 286) (z := 1) B at_285 ?_
   refine Ow.iload (pc' := 288) B at_286 ?_
   by_cases c41 : qa2 = (0 : Int32)
   ·refine Ow.ifT (pc' := 295) B at_288 (teq c41).1 ?_
    refine Ow.iconst (pc' := 296) (x := 0) B at_295 ?_
    refine Ow.iadd (pc' := 297) (z := 1) B at_296 ?_
    refine Ow.istore (pc' := 299) (Ls' := #[vI x0, vI x1, vI x2, vI x3, vI qa0, vI ea0, vI qa1, vI ea1, vI qa2, vI ea2, vR s0, vR s1, vR s2, vR c0, vR c1, vR c2, vR ex, vR tw, vI (Int32.ofNat cs.length), vR r5, vI 1, vI 1, .unset, .unset]) B at_297 ?_
    refine Ow.iload (pc' := 301) B at_299 (Ow.iconst (pc' := 302) (x := 1) B at_301 ?_)
    refine Ow.icmpF (pc' := 305) B at_302 (by decide) ?_
    refine Ow.iload (pc' := 307) B at_305 ?_
    refine Ow.ifT (pc' := 315) B at_307 (teq (c38)).1 ?_
    refine Ow.iload (pc' := 317) B at_315 ?_
    refine Ow.ifF (pc' := 320) B at_317 (feq (c39)).1 ?_
    refine Ow.iload (pc' := 322) B at_320 ?_
    refine Ow.goto (pc' := 327) B at_322 ?_
    refine Ow.istore (pc' := 329) (Ls' := #[vI x0, vI x1, vI x2, vI x3, vI qa0, vI ea0, vI qa1, vI ea1, vI qa2, vI ea2, vR s0, vR s1, vR s2, vR c0, vR c1, vR c2, vR ex, vR tw, vI (Int32.ofNat cs.length), vR r5, vI 1, vI 1, vI qa1, .unset]) B at_327 ?_
    refine Ow.iload (pc' := 331) B at_329 ?_
    refine Ow.ifT (pc' := 339) B at_331 (teq (c38)).1 ?_
    refine Ow.iload (pc' := 341) B at_339 ?_
    refine Ow.ifF (pc' := 344) B at_341 (feq (c39)).1 ?_
    refine Ow.aload (pc' := 346) B at_344 ?_
    refine Ow.goto (pc' := 351) B at_346 ?_
    refine Ow.astore (pc' := 353) (Ls' := #[vI x0, vI x1, vI x2, vI x3, vI qa0, vI ea0, vI qa1, vI ea1, vI qa2, vI ea2, vR s0, vR s1, vR s2, vR c0, vR c1, vR c2, vR ex, vR tw, vI (Int32.ofNat cs.length), vR r5, vI 1, vI 1, vI qa1, vR s1]) B at_351 ?_
    refine Ow.iload (pc' := 355) B at_353 (Ow.iconst (pc' := 356) (x := 2) B at_355 ?_)
    refine Ow.icmpT (pc' := 378) B at_356 (feq (hK1 (c38) (c41))).2 ?_
    refine Ow.iload (pc' := 380) B at_378 ?_
    exact Ow.retI (S' := []) (t := .boolean) B at_380 (rfl)
   ·refine Ow.ifF (pc' := 291) B at_288 (feq c41).1 ?_
    refine Ow.iconst (pc' := 292) (x := 1) B at_291 ?_
    refine Ow.goto (pc' := 296) B at_292 ?_
    refine Ow.iadd (pc' := 297) (z := 2) B at_296 ?_
    refine Ow.istore (pc' := 299) (Ls' := #[vI x0, vI x1, vI x2, vI x3, vI qa0, vI ea0, vI qa1, vI ea1, vI qa2, vI ea2, vR s0, vR s1, vR s2, vR c0, vR c1, vR c2, vR ex, vR tw, vI (Int32.ofNat cs.length), vR r5, vI 1, vI 2, .unset, .unset]) B at_297 ?_
    refine Ow.iload (pc' := 301) B at_299 (Ow.iconst (pc' := 302) (x := 1) B at_301 ?_)
    refine Ow.icmpT (pc' := 378) B at_302 (by decide) ?_
    refine Ow.iload (pc' := 380) B at_378 ?_
    exact Ow.retI (S' := []) (t := .boolean) B at_380 (rfl)
 ·refine Ow.ifF (pc' := 270) B at_267 (feq c38).1 ?_
  refine Ow.iconst (pc' := 271) (x := 1) B at_270 ?_
  refine Ow.goto (pc' := 275) B at_271 ?_
  refine Ow.iload (pc' := 277) B at_275 ?_
  by_cases c42 : qa1 = (0 : Int32)
  ·refine Ow.ifT (pc' := 284) B at_277 (teq c42).1 ?_
   refine Ow.iconst (pc' := 285) (x := 0) B at_284 ?_
   refine Ow.iadd (pc' := 286) (z := 1) B at_285 ?_
   refine Ow.iload (pc' := 288) B at_286 ?_
   by_cases c43 : qa2 = (0 : Int32)
   ·refine Ow.ifT (pc' := 295) B at_288 (teq c43).1 ?_
    refine Ow.iconst (pc' := 296) (x := 0) B at_295 ?_
    refine Ow.iadd (pc' := 297) (z := 1) B at_296 ?_
    refine Ow.istore (pc' := 299) (Ls' := #[vI x0, vI x1, vI x2, vI x3, vI qa0, vI ea0, vI qa1, vI ea1, vI qa2, vI ea2, vR s0, vR s1, vR s2, vR c0, vR c1, vR c2, vR ex, vR tw, vI (Int32.ofNat cs.length), vR r5, vI 1, vI 1, .unset, .unset]) B at_297 ?_
    refine Ow.iload (pc' := 301) B at_299 (Ow.iconst (pc' := 302) (x := 1) B at_301 ?_)
    refine Ow.icmpF (pc' := 305) B at_302 (by decide) ?_
    refine Ow.iload (pc' := 307) B at_305 ?_
    refine Ow.ifF (pc' := 310) B at_307 (feq (c38)).1 ?_
    refine Ow.iload (pc' := 312) B at_310 ?_
    refine Ow.goto (pc' := 327) B at_312 ?_
    refine Ow.istore (pc' := 329) (Ls' := #[vI x0, vI x1, vI x2, vI x3, vI qa0, vI ea0, vI qa1, vI ea1, vI qa2, vI ea2, vR s0, vR s1, vR s2, vR c0, vR c1, vR c2, vR ex, vR tw, vI (Int32.ofNat cs.length), vR r5, vI 1, vI 1, vI qa0, .unset]) B at_327 ?_
    refine Ow.iload (pc' := 331) B at_329 ?_
    refine Ow.ifF (pc' := 334) B at_331 (feq (c38)).1 ?_
    refine Ow.aload (pc' := 336) B at_334 ?_
    refine Ow.goto (pc' := 351) B at_336 ?_
    refine Ow.astore (pc' := 353) (Ls' := #[vI x0, vI x1, vI x2, vI x3, vI qa0, vI ea0, vI qa1, vI ea1, vI qa2, vI ea2, vR s0, vR s1, vR s2, vR c0, vR c1, vR c2, vR ex, vR tw, vI (Int32.ofNat cs.length), vR r5, vI 1, vI 1, vI qa0, vR s0]) B at_351 ?_
    refine Ow.iload (pc' := 355) B at_353 (Ow.iconst (pc' := 356) (x := 2) B at_355 ?_)
    refine Ow.icmpT (pc' := 378) B at_356 (feq (hK0 (c42) (c43))).2 ?_
    refine Ow.iload (pc' := 380) B at_378 ?_
    exact Ow.retI (S' := []) (t := .boolean) B at_380 (rfl)
   ·refine Ow.ifF (pc' := 291) B at_288 (feq c43).1 ?_
    refine Ow.iconst (pc' := 292) (x := 1) B at_291 ?_
    refine Ow.goto (pc' := 296) B at_292 ?_
    refine Ow.iadd (pc' := 297) (z := 2) B at_296 ?_
    refine Ow.istore (pc' := 299) (Ls' := #[vI x0, vI x1, vI x2, vI x3, vI qa0, vI ea0, vI qa1, vI ea1, vI qa2, vI ea2, vR s0, vR s1, vR s2, vR c0, vR c1, vR c2, vR ex, vR tw, vI (Int32.ofNat cs.length), vR r5, vI 1, vI 2, .unset, .unset]) B at_297 ?_
    refine Ow.iload (pc' := 301) B at_299 (Ow.iconst (pc' := 302) (x := 1) B at_301 ?_)
    refine Ow.icmpT (pc' := 378) B at_302 (by decide) ?_
    refine Ow.iload (pc' := 380) B at_378 ?_
    exact Ow.retI (S' := []) (t := .boolean) B at_380 (rfl)
  ·refine Ow.ifF (pc' := 280) B at_277 (feq c42).1 ?_
   refine Ow.iconst (pc' := 281) (x := 1) B at_280 ?_
   refine Ow.goto (pc' := 285) B at_281 ?_
   refine Ow.iadd (pc' := 286) (z := 2) B at_285 ?_
   refine Ow.iload (pc' := 288) B at_286 ?_
   by_cases c44 : qa2 = (0 : Int32)
   ·refine Ow.ifT (pc' := 295) B at_288 (teq c44).1 ?_
    refine Ow.iconst (pc' := 296) (x := 0) B at_295 ?_
    refine Ow.iadd (pc' := 297) (z := 2) B at_296 ?_
    refine Ow.istore (pc' := 299) (Ls' := #[vI x0, vI x1, vI x2, vI x3, vI qa0, vI ea0, vI qa1, vI ea1, vI qa2, vI ea2, vR s0, vR s1, vR s2, vR c0, vR c1, vR c2, vR ex, vR tw, vI (Int32.ofNat cs.length), vR r5, vI 1, vI 2, .unset, .unset]) B at_297 ?_
    refine Ow.iload (pc' := 301) B at_299 (Ow.iconst (pc' := 302) (x := 1) B at_301 ?_)
    refine Ow.icmpT (pc' := 378) B at_302 (by decide) ?_
    refine Ow.iload (pc' := 380) B at_378 ?_
    exact Ow.retI (S' := []) (t := .boolean) B at_380 (rfl)
   ·refine Ow.ifF (pc' := 291) B at_288 (feq c44).1 ?_
    refine Ow.iconst (pc' := 292) (x := 1) B at_291 ?_
    refine Ow.goto (pc' := 296) B at_292 ?_
    refine Ow.iadd (pc' := 297) (z := 3) B at_296 ?_
    refine Ow.istore (pc' := 299) (Ls' := #[vI x0, vI x1, vI x2, vI x3, vI qa0, vI ea0, vI qa1, vI ea1, vI qa2, vI ea2, vR s0, vR s1, vR s2, vR c0, vR c1, vR c2, vR ex, vR tw, vI (Int32.ofNat cs.length), vR r5, vI 1, vI 3, .unset, .unset]) B at_297 ?_
    refine Ow.iload (pc' := 301) B at_299 (Ow.iconst (pc' := 302) (x := 1) B at_301 ?_)
    refine Ow.icmpT (pc' := 378) B at_302 (by decide) ?_
    refine Ow.iload (pc' := 380) B at_378 ?_
    exact Ow.retI (S' := []) (t := .boolean) B at_380 (rfl)
theorem con_init_31 (hw : Hw a0 Z) (G : Ow.Glo Z cz sf) (GS : GlS Z) {iof : Value} (GI : Sta Z Z.heap "jdk/internal/util/Preconditions" "IOOBE_FORMATTER" "Ljava/util/function/BiFunction;" iof ∧ iof.isRef = true) {pa0 : Nat} {h0 : Heap} (O0 : Old Z n0 h0) (hf0 : Exa Z h0 pa0 "com/example/ply3/ply3/TextWriter") (hf1 : Fld Z h0 pa0 "com/example/ply3/ply3/TextWriter" "text" "Ljava/lang/StringBuilder;" .null) (hf2 : Fld Z h0 pa0 "com/example/ply3/ply3/TextWriter" "whole" "Ljava/lang/String;" .null) (hf3 : Fld Z h0 pa0 "java/io/Writer" "lock" "Ljava/lang/Object;" .null) (hn0 : n0 ≤ pa0) :
    Ow.Con l Z EL1 n0 my67 jdk_2052_method_2_code 1 (Option.none : Option Jvm.ClassFile.FieldType) [] ({ frames := 1, cells := 0, slots := 0, locals := 12 } : Room) #[(.ref pa0)] [] h0 (fun v h S' => (v = none ∧ Keep h0 h [pa0] ∧ Exa Z h pa0 "com/example/ply3/ply3/TextWriter" ∧ Fld Z h pa0 "com/example/ply3/ply3/TextWriter" "text" "Ljava/lang/StringBuilder;" .null ∧ Fld Z h pa0 "com/example/ply3/ply3/TextWriter" "whole" "Ljava/lang/String;" .null ∧ Fld Z h pa0 "java/io/Writer" "lock" "Ljava/lang/Object;" (.ref pa0) ∧ S' = [])) := by
 refine Ow.Con.enter (Ls := #[vR pa0]) (plainFor_of_name pn10) O0 (hEW hw) (hSA hw) ?_
 intro p e s m below meth c B
 have z0 := Ow.old_le O0
 have lpa0 : (pa0 : Nat) < h0.size := hf0.lt
 refine Ow.aloadN (pc' := 1) B e68_0 ?_
 refine Ow.objInit (pc' := 4) (W := 0) B e68_1 (w40 hw) (w16 hw) (w17 hw) ?_
 refine Ow.aloadN (pc' := 5) B e68_4 (Ow.aloadN (pc' := 6) B e68_5 ?_)
 refine Ow.putfield (pc' := 9) (ty := (.object "java/lang/Object")) B e68_6 (w41 hw) Via.refl hf3 hf0 (Or.inl (w42 hw)) (w30 hw) (Or.inr ⟨by decide, by decide⟩) ?_
 intro h1 Wh1
 have Kh1 := Keep.of_wr Wh1
 have zh1 := Kh1.1
 have f2 : Fld Z h1 pa0 "java/io/Writer" "lock" "Ljava/lang/Object;" (.ref pa0) := hf3.same Wh1
 have f3 : Fld Z h1 pa0 "com/example/ply3/ply3/TextWriter" "text" "Ljava/lang/StringBuilder;" .null := hf1.other Wh1 (Or.inr (slot_ne (a0 := a0) (C := "com/example/ply3/ply3/TextWriter") (t := (.object "java/lang/StringBuilder")) (t' := (.object "java/lang/Object")) (Or.inl (w52 hw)) (Or.inl (w42 hw)) (by decide) (by decide) (by decide)))
 have f4 : Fld Z h1 pa0 "com/example/ply3/ply3/TextWriter" "whole" "Ljava/lang/String;" .null := hf2.other Wh1 (Or.inr (slot_ne (a0 := a0) (C := "com/example/ply3/ply3/TextWriter") (t := (.object "java/lang/String")) (t' := (.object "java/lang/Object")) (Or.inl (w54 hw)) (Or.inl (w42 hw)) (by decide) (by decide) (by decide)))
 have f5 := hf0.keep Kh1
 exact Ow.retV (S' := []) B e68_9 (⟨rfl, ((Keep.refl _ [pa0]).trans Kh1 (allS (Or.inl (by simp)) all0)), f5, f3, f4, f2, rfl⟩)
theorem con_init_32 (hw : Hw a0 Z) (G : Ow.Glo Z cz sf) (GS : GlS Z) {iof : Value} (GI : Sta Z Z.heap "jdk/internal/util/Preconditions" "IOOBE_FORMATTER" "Ljava/util/function/BiFunction;" iof ∧ iof.isRef = true) {pa0 : Nat} {h0 : Heap} (O0 : Old Z n0 h0) (hf0 : Exa Z h0 pa0 "com/example/ply3/ply3/TextWriter") (hf1 : Fld Z h0 pa0 "com/example/ply3/ply3/TextWriter" "text" "Ljava/lang/StringBuilder;" .null) (hf2 : Fld Z h0 pa0 "com/example/ply3/ply3/TextWriter" "whole" "Ljava/lang/String;" .null) (hf3 : Fld Z h0 pa0 "java/io/Writer" "lock" "Ljava/lang/Object;" .null) (hn0 : n0 ≤ pa0) :
    Ow.Con l Z EL1 n0 my68 prog_33_method_1_code 1 (Option.none : Option Jvm.ClassFile.FieldType) [] ({ frames := 2, cells := 0, slots := 0, locals := 24 } : Room) #[(.ref pa0)] [] h0 (fun v h S' => (v = none ∧ Keep h0 h [pa0] ∧ Exa Z h pa0 "com/example/ply3/ply3/TextWriter" ∧ Fld Z h pa0 "com/example/ply3/ply3/TextWriter" "text" "Ljava/lang/StringBuilder;" .null ∧ Fld Z h pa0 "com/example/ply3/ply3/TextWriter" "whole" "Ljava/lang/String;" .null ∧ Fld Z h pa0 "java/io/Writer" "lock" "Ljava/lang/Object;" (.ref pa0) ∧ S' = [])) := by
 refine Ow.Con.enter (Ls := #[vR pa0]) (plainFor_of_name pn6) O0 (hEW hw) (hSA hw) ?_
 intro p e s m below meth c B
 have z0 := Ow.old_le O0
 have lpa0 : (pa0 : Nat) < h0.size := hf0.lt
 refine Ow.aloadN (pc' := 1) B e67_0 ?_
 refine Ow.Go.old (fun o1 => ?_)
 refine Ow.callInit (pc' := 4) (W := 0) (k' := 0) (n' := 0) (argsL := []) (rest := []) B e67_1 (w35 hw) (w36 hw) (w38 hw) (w39 hw) (con_init_31 hw G GS GI (pa0 := pa0) o1 hf0 hf1 hf2 hf3 (by omega)) pd22 ?_
 intro vq2 h3 S4 q2 zh3
 obtain ⟨rfl, Kh3, f5, f6, f7, f8, rfl⟩ := q2
 refine Ow.Go.nr (S' := []) (st' := []) ?_
 exact Ow.retV (S' := []) B e67_4 (⟨rfl, ((Keep.refl _ [pa0]).trans Kh3 (allS (Or.inl (by simp)) all0)), f5, f6, f7, f8, rfl⟩)
theorem lawCon (hw : Hw a0 Z) (G : Ow.Glo Z cz sf) (GS : GlS Z) {iof : Value} (GI : Sta Z Z.heap "jdk/internal/util/Preconditions" "IOOBE_FORMATTER" "Ljava/util/function/BiFunction;" iof ∧ iof.isRef = true) (x0 x1 x2 x3 : Int32) {h0 : Heap} (O0 : Old Z n0 h0)  :
    Ow.Con l Z EL1 n0 x code maxLocals ret tables_1 room_1 #[(.int x0), (.int x1), (.int x2), (.int x3)] [] h0 (fun v _ _ => v = some (.int 1)) := by
 refine Ow.Con.enter (Ls := #[vI x0, vI x1, vI x2, vI x3, .unset, .unset, .unset, .unset, .unset, .unset, .unset, .unset, .unset, .unset, .unset, .unset, .unset, .unset, .unset, .unset, .unset, .unset, .unset, .unset]) (plainFor_of_name pn8) O0 (hEW hw) (hSA hw) ?_ (hef := oef4 x0 x1 x2 x3)
 intro p e s m below meth c B
 have z0 := Ow.old_le O0
 refine Ow.iloadN (pc' := 1) B at_0 (Ow.iconst (pc' := 2) (x := 3) B at_1 ?_)
 obtain ⟨qa0, hqa0⟩ : ∃ z : Int32, (x0 &&& (3 : Int32)) = z := ⟨_, rfl⟩
 have hk0 := and3q x0
 rw [hqa0] at hk0
 refine Ow.iand (pc' := 3) (z := qa0) (hz := hqa0) B at_2 ?_
 refine Ow.istore (pc' := 5) (Ls' := #[vI x0, vI x1, vI x2, vI x3, vI qa0, .unset, .unset, .unset, .unset, .unset, .unset, .unset, .unset, .unset, .unset, .unset, .unset, .unset, .unset, .unset, .unset, .unset, .unset, .unset]) B at_3 ?_
 refine Ow.iloadN (pc' := 6) B at_5 (Ow.iconst (pc' := 7) (x := 2) B at_6 ?_)
 refine Ow.iushr (pc' := 8) (z := (Jvm.Free.XT.ushr x0 (2 : Int32))) B at_7 ?_
 refine Ow.iconst (pc' := 9) (x := 3) B at_8 ?_
 obtain ⟨ea0, hea0⟩ : ∃ z : Int32, ((Jvm.Free.XT.ushr x0 (2 : Int32)) &&& (3 : Int32)) = z := ⟨_, rfl⟩
 refine Ow.iand (pc' := 10) (z := ea0) (hz := hea0) B at_9 ?_
 refine Ow.istore (pc' := 12) (Ls' := #[vI x0, vI x1, vI x2, vI x3, vI qa0, vI ea0, .unset, .unset, .unset, .unset, .unset, .unset, .unset, .unset, .unset, .unset, .unset, .unset, .unset, .unset, .unset, .unset, .unset, .unset]) B at_10 ?_
 refine Ow.iloadN (pc' := 13) B at_12 (Ow.iconst (pc' := 14) (x := 4) B at_13 ?_)
 refine Ow.iushr (pc' := 15) (z := (Jvm.Free.XT.ushr x0 (4 : Int32))) B at_14 ?_
 refine Ow.iconst (pc' := 16) (x := 3) B at_15 ?_
 obtain ⟨qa1, hqa1⟩ : ∃ z : Int32, ((Jvm.Free.XT.ushr x0 (4 : Int32)) &&& (3 : Int32)) = z := ⟨_, rfl⟩
 have hk1 := and3q (Jvm.Free.XT.ushr x0 (4 : Int32))
 rw [hqa1] at hk1
 refine Ow.iand (pc' := 17) (z := qa1) (hz := hqa1) B at_16 ?_
 refine Ow.istore (pc' := 19) (Ls' := #[vI x0, vI x1, vI x2, vI x3, vI qa0, vI ea0, vI qa1, .unset, .unset, .unset, .unset, .unset, .unset, .unset, .unset, .unset, .unset, .unset, .unset, .unset, .unset, .unset, .unset, .unset]) B at_17 ?_
 refine Ow.iloadN (pc' := 20) B at_19 (Ow.bipush (pc' := 22) (x := 6) B at_20 ?_)
 refine Ow.iushr (pc' := 23) (z := (Jvm.Free.XT.ushr x0 (6 : Int32))) B at_22 ?_
 refine Ow.iconst (pc' := 24) (x := 3) B at_23 ?_
 obtain ⟨ea1, hea1⟩ : ∃ z : Int32, ((Jvm.Free.XT.ushr x0 (6 : Int32)) &&& (3 : Int32)) = z := ⟨_, rfl⟩
 refine Ow.iand (pc' := 25) (z := ea1) (hz := hea1) B at_24 ?_
 refine Ow.istore (pc' := 27) (Ls' := #[vI x0, vI x1, vI x2, vI x3, vI qa0, vI ea0, vI qa1, vI ea1, .unset, .unset, .unset, .unset, .unset, .unset, .unset, .unset, .unset, .unset, .unset, .unset, .unset, .unset, .unset, .unset]) B at_25 ?_
 refine Ow.iloadN (pc' := 28) B at_27 (Ow.bipush (pc' := 30) (x := 8) B at_28 ?_)
 refine Ow.iushr (pc' := 31) (z := (Jvm.Free.XT.ushr x0 (8 : Int32))) B at_30 ?_
 refine Ow.iconst (pc' := 32) (x := 3) B at_31 ?_
 obtain ⟨qa2, hqa2⟩ : ∃ z : Int32, ((Jvm.Free.XT.ushr x0 (8 : Int32)) &&& (3 : Int32)) = z := ⟨_, rfl⟩
 have hk2 := and3q (Jvm.Free.XT.ushr x0 (8 : Int32))
 rw [hqa2] at hk2
 refine Ow.iand (pc' := 33) (z := qa2) (hz := hqa2) B at_32 ?_
 refine Ow.istore (pc' := 35) (Ls' := #[vI x0, vI x1, vI x2, vI x3, vI qa0, vI ea0, vI qa1, vI ea1, vI qa2, .unset, .unset, .unset, .unset, .unset, .unset, .unset, .unset, .unset, .unset, .unset, .unset, .unset, .unset, .unset]) B at_33 ?_
 refine Ow.iloadN (pc' := 36) B at_35 (Ow.bipush (pc' := 38) (x := 10) B at_36 ?_)
 refine Ow.iushr (pc' := 39) (z := (Jvm.Free.XT.ushr x0 (10 : Int32))) B at_38 ?_
 refine Ow.iconst (pc' := 40) (x := 3) B at_39 ?_
 obtain ⟨ea2, hea2⟩ : ∃ z : Int32, ((Jvm.Free.XT.ushr x0 (10 : Int32)) &&& (3 : Int32)) = z := ⟨_, rfl⟩
 refine Ow.iand (pc' := 41) (z := ea2) (hz := hea2) B at_40 ?_
 refine Ow.istore (pc' := 43) (Ls' := #[vI x0, vI x1, vI x2, vI x3, vI qa0, vI ea0, vI qa1, vI ea1, vI qa2, vI ea2, .unset, .unset, .unset, .unset, .unset, .unset, .unset, .unset, .unset, .unset, .unset, .unset, .unset, .unset]) B at_41 ?_
 refine Ow.iloadN (pc' := 44) B at_43 (Ow.iload (pc' := 46) B at_44 ?_)
 refine Ow.Go.old (fun o1 => ?_)
 refine Ow.callStatic (pc' := 49) (W := 0) (k' := 6) (n' := 54) (argsL := [(.int x1), (.int ea0)]) (rest := []) B at_46 (w0 hw) (w1 hw) (w2 hw) (w3 hw) (gStr hw G GS GI (pp := x1) (e' := ea0) o1) pd44 ?_
 intro vq2 h3 S4 q2 zh3
 obtain ⟨r5, t6, k7, ss9, rfl, Kh3, br5, f8, hss9, rfl⟩ := q2
 have lr5 : (r5 : Nat) < h3.size := f8.lt
 have lt6 : (t6 : Nat) < h3.size := f8.ltt
 have nss9 := hss9.len
 refine Ow.Go.nr (S' := []) (st' := [(.ref r5)]) ?_
 refine Ow.astore (pc' := 51) (Ls' := #[vI x0, vI x1, vI x2, vI x3, vI qa0, vI ea0, vI qa1, vI ea1, vI qa2, vI ea2, vR r5, .unset, .unset, .unset, .unset, .unset, .unset, .unset, .unset, .unset, .unset, .unset, .unset, .unset]) B at_49 ?_
 refine Ow.iloadN (pc' := 52) B at_51 (Ow.iload (pc' := 54) B at_52 ?_)
 refine Ow.Go.old (fun o10 => ?_)
 refine Ow.callStatic (pc' := 57) (W := 0) (k' := 12) (n' := 108) (argsL := [(.int x2), (.int ea1)]) (rest := []) B at_54 (w0 hw) (w1 hw) (w2 hw) (w3 hw) (gStr hw G GS GI (pp := x2) (e' := ea1) o10) pd44 ?_
 intro vq11 h12 S13 q11 zh12
 obtain ⟨r14, t15, k16, ss18, rfl, Kh12, br14, f17, hss18, rfl⟩ := q11
 have lr14 : (r14 : Nat) < h12.size := f17.lt
 have lt15 : (t15 : Nat) < h12.size := f17.ltt
 have nss18 := hss18.len
 refine Ow.Go.nr (S' := []) (st' := [(.ref r14)]) ?_
 refine Ow.astore (pc' := 59) (Ls' := #[vI x0, vI x1, vI x2, vI x3, vI qa0, vI ea0, vI qa1, vI ea1, vI qa2, vI ea2, vR r5, vR r14, .unset, .unset, .unset, .unset, .unset, .unset, .unset, .unset, .unset, .unset, .unset, .unset]) B at_57 ?_
 refine Ow.iloadN (pc' := 60) B at_59 (Ow.iload (pc' := 62) B at_60 ?_)
 refine Ow.Go.old (fun o19 => ?_)
 refine Ow.callStatic (pc' := 65) (W := 0) (k' := 18) (n' := 162) (argsL := [(.int x3), (.int ea2)]) (rest := []) B at_62 (w0 hw) (w1 hw) (w2 hw) (w3 hw) (gStr hw G GS GI (pp := x3) (e' := ea2) o19) pd44 ?_
 intro vq20 h21 S22 q20 zh21
 obtain ⟨r23, t24, k25, ss27, rfl, Kh21, br23, f26, hss27, rfl⟩ := q20
 have lr23 : (r23 : Nat) < h21.size := f26.lt
 have lt24 : (t24 : Nat) < h21.size := f26.ltt
 have nss27 := hss27.len
 refine Ow.Go.nr (S' := []) (st' := [(.ref r23)]) ?_
 refine Ow.astore (pc' := 67) (Ls' := #[vI x0, vI x1, vI x2, vI x3, vI qa0, vI ea0, vI qa1, vI ea1, vI qa2, vI ea2, vR r5, vR r14, vR r23, .unset, .unset, .unset, .unset, .unset, .unset, .unset, .unset, .unset, .unset, .unset]) B at_65 ?_
 refine Ow.iloadN (pc' := 68) B at_67 ?_
 refine Ow.Go.old (fun o28 => ?_)
 refine Ow.callStatic (pc' := 71) (W := 0) (k' := 19) (n' := 164) (argsL := [(.int x1)]) (rest := []) B at_68 (w26 hw) (w27 hw) (w2 hw) (w28 hw) (gPair hw G GS GI (pp := x1) o28) pd45 ?_
 intro vq29 h30 S31 q29 zh30
 obtain ⟨r32, k33, rfl, Kh30, br32, f34, rfl⟩ := q29
 have lr32 : (r32 : Nat) < h30.size := f34.lt
 refine Ow.Go.nr (S' := []) (st' := [(.ref r32)]) ?_
 refine Ow.astore (pc' := 73) (Ls' := #[vI x0, vI x1, vI x2, vI x3, vI qa0, vI ea0, vI qa1, vI ea1, vI qa2, vI ea2, vR r5, vR r14, vR r23, vR r32, .unset, .unset, .unset, .unset, .unset, .unset, .unset, .unset, .unset, .unset]) B at_71 ?_
 refine Ow.iloadN (pc' := 74) B at_73 ?_
 refine Ow.Go.old (fun o35 => ?_)
 refine Ow.callStatic (pc' := 77) (W := 0) (k' := 20) (n' := 166) (argsL := [(.int x2)]) (rest := []) B at_74 (w26 hw) (w27 hw) (w2 hw) (w28 hw) (gPair hw G GS GI (pp := x2) o35) pd45 ?_
 intro vq36 h37 S38 q36 zh37
 obtain ⟨r39, k40, rfl, Kh37, br39, f41, rfl⟩ := q36
 have lr39 : (r39 : Nat) < h37.size := f41.lt
 refine Ow.Go.nr (S' := []) (st' := [(.ref r39)]) ?_
 refine Ow.astore (pc' := 79) (Ls' := #[vI x0, vI x1, vI x2, vI x3, vI qa0, vI ea0, vI qa1, vI ea1, vI qa2, vI ea2, vR r5, vR r14, vR r23, vR r32, vR r39, .unset, .unset, .unset, .unset, .unset, .unset, .unset, .unset, .unset]) B at_77 ?_
 refine Ow.iloadN (pc' := 80) B at_79 ?_
 refine Ow.Go.old (fun o42 => ?_)
 refine Ow.callStatic (pc' := 83) (W := 0) (k' := 21) (n' := 168) (argsL := [(.int x3)]) (rest := []) B at_80 (w26 hw) (w27 hw) (w2 hw) (w28 hw) (gPair hw G GS GI (pp := x3) o42) pd45 ?_
 intro vq43 h44 S45 q43 zh44
 obtain ⟨r46, k47, rfl, Kh44, br46, f48, rfl⟩ := q43
 have lr46 : (r46 : Nat) < h44.size := f48.lt
 refine Ow.Go.nr (S' := []) (st' := [(.ref r46)]) ?_
 refine Ow.astore (pc' := 85) (Ls' := #[vI x0, vI x1, vI x2, vI x3, vI qa0, vI ea0, vI qa1, vI ea1, vI qa2, vI ea2, vR r5, vR r14, vR r23, vR r32, vR r39, vR r46, .unset, .unset, .unset, .unset, .unset, .unset, .unset, .unset]) B at_83 ?_
 refine Ow.bipush (pc' := 87) (x := 6) B at_85 ?_
 refine Ow.newArr (pc' := 89) (k' := 22) (n' := 174) (cap := 6) B at_87 (w7 hw) (by decide) (by decide) ?_
 intro h50 a49 ka49 ga49 ba49 Kh50 V0a49
 have zh50 := Kh50.1
 have la49 : (a49 : Nat) < h50.size := V0a49.lt
 have Va49 : Arv Z h50 a49 ka49 .char (6 : Int32) [(.int 0), (.int 0), (.int 0), (.int 0), (.int 0), (.int 0)] (.int 0) := V0a49.pad (pad_rep [] (.int 0) 6)
 refine Ow.astore (pc' := 91) (Ls' := #[vI x0, vI x1, vI x2, vI x3, vI qa0, vI ea0, vI qa1, vI ea1, vI qa2, vI ea2, vR r5, vR r14, vR r23, vR r32, vR r39, vR r46, vR a49, .unset, .unset, .unset, .unset, .unset, .unset, .unset]) B at_89 ?_
 refine Ow.newObj (pc' := 94) (k' := 23) (n' := 178) B at_91 (w29 hw) (w30 hw) (w31 hw) ?_
 intro h52 a51 ga51 ba51 Kh52 Aa51 Da51
 have zh52 := Kh52.1
 have la51 : (a51 : Nat) < h52.size := Aa51.lt
 have f53 : Fld Z h52 a51 "java/io/Writer" "lock" "Ljava/lang/Object;" .null := Da51 (Or.inl (w42 hw)) (ty := (.object "java/lang/Object")) (by decide)
 have f54 : Fld Z h52 a51 "com/example/ply3/ply3/TextWriter" "text" "Ljava/lang/StringBuilder;" .null := Da51 (Or.inl (w52 hw)) (ty := (.object "java/lang/StringBuilder")) (by decide)
 have f55 : Fld Z h52 a51 "com/example/ply3/ply3/TextWriter" "whole" "Ljava/lang/String;" .null := Da51 (Or.inl (w54 hw)) (ty := (.object "java/lang/String")) (by decide)
 refine Ow.dup (pc' := 95) B at_94 ?_
 refine Ow.Go.old (fun o56 => ?_)
 refine Ow.callInit (pc' := 98) (W := 1) (k' := 23) (n' := 178) (argsL := []) (rest := [(.ref a51)]) B at_95 (w32 hw) (w33 hw) (w31 hw) (w34 hw) (con_init_32 hw G GS GI (pa0 := a51) o56 Aa51 f54 f55 f53 (by omega)) pd22 ?_
 intro vq57 h58 S59 q57 zh58
 obtain ⟨rfl, Kh58, f60, f61, f62, f63, rfl⟩ := q57
 refine Ow.Go.nr (S' := [a51, a49]) (st' := [(.ref a51)]) ?_
 refine Ow.astore (pc' := 100) (Ls' := #[vI x0, vI x1, vI x2, vI x3, vI qa0, vI ea0, vI qa1, vI ea1, vI qa2, vI ea2, vR r5, vR r14, vR r23, vR r32, vR r39, vR r46, vR a49, vR a51, .unset, .unset, .unset, .unset, .unset, .unset]) B at_98 ?_
 have f64 := Va49.keep Kh52 Ow.nin0
 have f65 := f64.keep Kh58 (Ow.ninS (by omega) Ow.nin0)
 have f66 : Arv Z h58 a49 ka49 .char 6 (Ow.CA []) (.int 0) := f65.pad (fun i => (pad_rep [] (.int 0) 6 i).symm)
 refine Ow.iconst (pc' := 101) (x := 0) B at_100 ?_
 refine Ow.istore (pc' := 103) (Ls' := #[vI x0, vI x1, vI x2, vI x3, vI qa0, vI ea0, vI qa1, vI ea1, vI qa2, vI ea2, vR r5, vR r14, vR r23, vR r32, vR r39, vR r46, vR a49, vR a51, vI 0, .unset, .unset, .unset, .unset, .unset]) B at_101 ?_
 rcases kA hk0 with rfl | hK0 | rfl
 ·refine Ow.aload (pc' := 105) B at_103 (Ow.aload (pc' := 107) B at_105 (Ow.iload (pc' := 109) B at_107 (Ow.iload (pc' := 111) B at_109 (Ow.iload (pc' := 113) B at_111 (Ow.iloadN (pc' := 114) B at_113 (Ow.aload (pc' := 116) B at_114 (Ow.aload (pc' := 118) B at_116 ?_)))))))
  refine Ow.Go.old (fun o67 => ?_)
  refine Ow.callStatic (pc' := 121) (W := 0) (k' := 23) (n' := 178) (argsL := [(.ref a51), (.ref a49), (.int 0), (.int 0), (.int ea0), (.int x1), (.ref r5), (.ref r32)]) (rest := []) B at_118 (w43 hw) (w44 hw) (w2 hw) (w45 hw) (gSt0 hw G GS GI o67) pd46 ?_
  intro vq68 h69 S70 q68 zh69
  obtain ⟨rfl, rfl, rfl⟩ := q68
  refine Ow.Go.nr (S' := [a51, a49]) (st' := [(.int 0)]) ?_
  refine Ow.istore (pc' := 123) (Ls' := #[vI x0, vI x1, vI x2, vI x3, vI 0, vI ea0, vI qa1, vI ea1, vI qa2, vI ea2, vR r5, vR r14, vR r23, vR r32, vR r39, vR r46, vR a49, vR a51, vI 0, .unset, .unset, .unset, .unset, .unset]) B at_121 ?_
  rcases kA hk1 with rfl | hK1 | rfl
  ·refine Ow.aload (pc' := 125) B at_123 (Ow.aload (pc' := 127) B at_125 (Ow.iload (pc' := 129) B at_127 (Ow.iload (pc' := 131) B at_129 (Ow.iload (pc' := 133) B at_131 (Ow.iloadN (pc' := 134) B at_133 (Ow.aload (pc' := 136) B at_134 (Ow.aload (pc' := 138) B at_136 ?_)))))))
   refine Ow.Go.old (fun o71 => ?_)
   refine Ow.callStatic (pc' := 141) (W := 0) (k' := 23) (n' := 178) (argsL := [(.ref a51), (.ref a49), (.int 0), (.int 0), (.int ea1), (.int x2), (.ref r14), (.ref r39)]) (rest := []) B at_138 (w43 hw) (w44 hw) (w2 hw) (w45 hw) (gSt0 hw G GS GI o71) pd46 ?_
   intro vq72 h73 S74 q72 zh73
   obtain ⟨rfl, rfl, rfl⟩ := q72
   refine Ow.Go.nr (S' := [a51, a49]) (st' := [(.int 0)]) ?_
   refine Ow.istore (pc' := 143) (Ls' := #[vI x0, vI x1, vI x2, vI x3, vI 0, vI ea0, vI 0, vI ea1, vI qa2, vI ea2, vR r5, vR r14, vR r23, vR r32, vR r39, vR r46, vR a49, vR a51, vI 0, .unset, .unset, .unset, .unset, .unset]) B at_141 ?_
   rcases kA hk2 with rfl | hK2 | rfl
   ·refine Ow.aload (pc' := 145) B at_143 (Ow.aload (pc' := 147) B at_145 (Ow.iload (pc' := 149) B at_147 (Ow.iload (pc' := 151) B at_149 (Ow.iload (pc' := 153) B at_151 (Ow.iloadN (pc' := 154) B at_153 (Ow.aload (pc' := 156) B at_154 (Ow.aload (pc' := 158) B at_156 ?_)))))))
    refine Ow.Go.old (fun o75 => ?_)
    refine Ow.callStatic (pc' := 161) (W := 0) (k' := 23) (n' := 178) (argsL := [(.ref a51), (.ref a49), (.int 0), (.int 0), (.int ea2), (.int x3), (.ref r23), (.ref r46)]) (rest := []) B at_158 (w43 hw) (w44 hw) (w2 hw) (w45 hw) (gSt0 hw G GS GI o75) pd46 ?_
    intro vq76 h77 S78 q76 zh77
    obtain ⟨rfl, rfl, rfl⟩ := q76
    refine Ow.Go.nr (S' := [a51, a49]) (st' := [(.int 0)]) ?_
    refine Ow.istore (pc' := 163) (Ls' := #[vI x0, vI x1, vI x2, vI x3, vI 0, vI ea0, vI 0, vI ea1, vI 0, vI ea2, vR r5, vR r14, vR r23, vR r32, vR r39, vR r46, vR a49, vR a51, vI 0, .unset, .unset, .unset, .unset, .unset]) B at_161 ?_
    refine Ow.aload (pc' := 165) B at_163 ?_
    refine Ow.Go.old (fun o79 => ?_)
    refine Ow.callVirtual (pc' := 168) (W := 0) (k' := 25) (n' := 182) (argsL := []) (rest := []) (K := "com/example/ply3/ply3/TextWriter") B at_165 (w46 hw) (w47 hw) (w49 hw) (w49 hw) (w48 hw) (w31 hw) (w50 hw) f60 (gTsA hw G GS GI o79 f60 (by omega) f61 f62) pd42 ?_
    intro vq80 h81 S82 q80 zh81
    obtain ⟨r83, t84, k85, rfl, Kh81, f86, rfl⟩ := q80
    have lr83 : (r83 : Nat) < h81.size := f86.lt
    have lt84 : (t84 : Nat) < h81.size := f86.ltt
    refine Ow.Go.nr (S' := [a51, a49]) (st' := [(.ref r83)]) ?_
    refine Ow.astore (pc' := 170) (Ls' := #[vI x0, vI x1, vI x2, vI x3, vI 0, vI ea0, vI 0, vI ea1, vI 0, vI ea2, vR r5, vR r14, vR r23, vR r32, vR r39, vR r46, vR a49, vR a51, vI 0, vR r83, .unset, .unset, .unset, .unset]) B at_168 ?_
    refine Ow.aload (pc' := 172) B at_170 ?_
    refine Ow.Go.old (fun o87 => ?_)
    refine Ow.callVirtual (pc' := 175) (W := 0) (k' := 25) (n' := 182) (argsL := []) (rest := []) (K := "java/lang/String") B at_172 (w56 hw) (w57 hw) (w59 hw) (w59 hw) (w58 hw) (w6 hw) (w60 hw) (f86).1 (gLen hw G GS GI o87 f86 (by first|omega|(simp;omega)|simp)) pd28 ?_
    intro vq88 h89 S90 q88 zh89
    obtain ⟨rfl, rfl, rfl⟩ := q88
    refine Ow.Go.nr (S' := [a51, a49]) (st' := [(.int 0)]) ?_
    refine Ow.iload (pc' := 177) B at_175 ?_
    refine Ow.icmpF (pc' := 180) B at_177 (by decide) ?_
    refine Ow.aload (pc' := 182) B at_180 (Ow.aload (pc' := 184) B at_182 (Ow.iload (pc' := 186) B at_184 (Ow.iconst (pc' := 187) (x := 0) B at_186 ?_)))
    refine Ow.Go.old (fun o91 => ?_)
    have f92 := f66.keep Kh81 Ow.nin0
    refine Ow.callStatic (pc' := 190) (W := 0) (k' := 25) (n' := 182) (argsL := [(.ref r83), (.ref a49), (.int 0), (.int 0)]) (rest := []) B at_187 (w67 hw) (w68 hw) (w2 hw) (w69 hw) (gAt hw G GS GI (i := 0) o91 f86 f92 (by first|omega|(simp;omega)|simp) (by omega)) pd47 ?_
    intro vq93 h94 S95 q93 zh94
    obtain ⟨rfl, rfl, rfl⟩ := q93
    refine Ow.Go.nr (S' := [a51, a49]) (st' := [(.int 1)]) ?_
    refine Ow.ifF (pc' := 193) B at_190 (by decide) ?_
    refine Ow.aload (pc' := 195) B at_193 (Ow.aload (pc' := 197) B at_195 (Ow.iload (pc' := 199) B at_197 (Ow.iconst (pc' := 200) (x := 1) B at_199 ?_)))
    refine Ow.Go.old (fun o96 => ?_)
    refine Ow.callStatic (pc' := 203) (W := 0) (k' := 25) (n' := 182) (argsL := [(.ref r83), (.ref a49), (.int 0), (.int 1)]) (rest := []) B at_200 (w67 hw) (w68 hw) (w2 hw) (w69 hw) (gAt hw G GS GI (i := 1) o96 f86 f92 (by first|omega|(simp;omega)|simp) (by omega)) pd47 ?_
    intro vq97 h98 S99 q97 zh98
    obtain ⟨rfl, rfl, rfl⟩ := q97
    refine Ow.Go.nr (S' := [a51, a49]) (st' := [(.int 1)]) ?_
    refine Ow.ifF (pc' := 206) B at_203 (by decide) ?_
    refine Ow.aload (pc' := 208) B at_206 (Ow.aload (pc' := 210) B at_208 (Ow.iload (pc' := 212) B at_210 (Ow.iconst (pc' := 213) (x := 2) B at_212 ?_)))
    refine Ow.Go.old (fun o100 => ?_)
    refine Ow.callStatic (pc' := 216) (W := 0) (k' := 25) (n' := 182) (argsL := [(.ref r83), (.ref a49), (.int 0), (.int 2)]) (rest := []) B at_213 (w67 hw) (w68 hw) (w2 hw) (w69 hw) (gAt hw G GS GI (i := 2) o100 f86 f92 (by first|omega|(simp;omega)|simp) (by omega)) pd47 ?_
    intro vq101 h102 S103 q101 zh102
    obtain ⟨rfl, rfl, rfl⟩ := q101
    refine Ow.Go.nr (S' := [a51, a49]) (st' := [(.int 1)]) ?_
    refine Ow.ifF (pc' := 219) B at_216 (by decide) ?_
    refine Ow.aload (pc' := 221) B at_219 (Ow.aload (pc' := 223) B at_221 (Ow.iload (pc' := 225) B at_223 (Ow.iconst (pc' := 226) (x := 3) B at_225 ?_)))
    refine Ow.Go.old (fun o104 => ?_)
    refine Ow.callStatic (pc' := 229) (W := 0) (k' := 25) (n' := 182) (argsL := [(.ref r83), (.ref a49), (.int 0), (.int 3)]) (rest := []) B at_226 (w67 hw) (w68 hw) (w2 hw) (w69 hw) (gAt hw G GS GI (i := 3) o104 f86 f92 (by first|omega|(simp;omega)|simp) (by omega)) pd47 ?_
    intro vq105 h106 S107 q105 zh106
    obtain ⟨rfl, rfl, rfl⟩ := q105
    refine Ow.Go.nr (S' := [a51, a49]) (st' := [(.int 1)]) ?_
    refine Ow.ifF (pc' := 232) B at_229 (by decide) ?_
    refine Ow.aload (pc' := 234) B at_232 (Ow.aload (pc' := 236) B at_234 (Ow.iload (pc' := 238) B at_236 (Ow.iconst (pc' := 239) (x := 4) B at_238 ?_)))
    refine Ow.Go.old (fun o108 => ?_)
    refine Ow.callStatic (pc' := 242) (W := 0) (k' := 25) (n' := 182) (argsL := [(.ref r83), (.ref a49), (.int 0), (.int 4)]) (rest := []) B at_239 (w67 hw) (w68 hw) (w2 hw) (w69 hw) (gAt hw G GS GI (i := 4) o108 f86 f92 (by first|omega|(simp;omega)|simp) (by omega)) pd47 ?_
    intro vq109 h110 S111 q109 zh110
    obtain ⟨rfl, rfl, rfl⟩ := q109
    refine Ow.Go.nr (S' := [a51, a49]) (st' := [(.int 1)]) ?_
    refine Ow.ifF (pc' := 245) B at_242 (by decide) ?_
    refine Ow.aload (pc' := 247) B at_245 (Ow.aload (pc' := 249) B at_247 (Ow.iload (pc' := 251) B at_249 (Ow.iconst (pc' := 252) (x := 5) B at_251 ?_)))
    refine Ow.Go.old (fun o112 => ?_)
    refine Ow.callStatic (pc' := 255) (W := 0) (k' := 25) (n' := 182) (argsL := [(.ref r83), (.ref a49), (.int 0), (.int 5)]) (rest := []) B at_252 (w67 hw) (w68 hw) (w2 hw) (w69 hw) (gAt hw G GS GI (i := 5) o112 f86 f92 (by first|omega|(simp;omega)|simp) (by omega)) pd47 ?_
    intro vq113 h114 S115 q113 zh114
    obtain ⟨rfl, rfl, rfl⟩ := q113
    refine Ow.Go.nr (S' := [a51, a49]) (st' := [(.int 1)]) ?_
    refine Ow.ifF (pc' := 258) B at_255 (by decide) ?_
    refine Ow.iconst (pc' := 259) (x := 1) B at_258 ?_
    refine Ow.goto (pc' := 263) B at_259 ?_
    refine Ow.istore (pc' := 265) (Ls' := #[vI x0, vI x1, vI x2, vI x3, vI 0, vI ea0, vI 0, vI ea1, vI 0, vI ea2, vR r5, vR r14, vR r23, vR r32, vR r39, vR r46, vR a49, vR a51, vI 0, vR r83, vI 1, .unset, .unset, .unset]) B at_263 ?_
    refine Ow.iload (pc' := 267) B at_265 ?_
    refine Ow.ifT (pc' := 274) B at_267 (by decide) ?_
    refine Ow.iconst (pc' := 275) (x := 0) B at_274 (Ow.iload (pc' := 277) B at_275 ?_)
    refine Ow.ifT (pc' := 284) B at_277 (by decide) ?_
    refine Ow.iconst (pc' := 285) (x := 0) B at_284 ?_
    refine Ow.iadd (pc' := 286) (z := 0) B at_285 ?_
    refine Ow.iload (pc' := 288) B at_286 ?_
    refine Ow.ifT (pc' := 295) B at_288 (by decide) ?_
    refine Ow.iconst (pc' := 296) (x := 0) B at_295 ?_
    refine Ow.iadd (pc' := 297) (z := 0) B at_296 ?_
    refine Ow.istore (pc' := 299) (Ls' := #[vI x0, vI x1, vI x2, vI x3, vI 0, vI ea0, vI 0, vI ea1, vI 0, vI ea2, vR r5, vR r14, vR r23, vR r32, vR r39, vR r46, vR a49, vR a51, vI 0, vR r83, vI 1, vI 0, .unset, .unset]) B at_297 ?_
    refine Ow.iload (pc' := 301) B at_299 (Ow.iconst (pc' := 302) (x := 1) B at_301 ?_)
    refine Ow.icmpT (pc' := 378) B at_302 (by decide) ?_
    refine Ow.iload (pc' := 380) B at_378 ?_
    exact Ow.retI (S' := []) (t := .boolean) B at_380 (rfl)
   ·refine Ow.aload (pc' := 145) B at_143 (Ow.aload (pc' := 147) B at_145 (Ow.iload (pc' := 149) B at_147 (Ow.iload (pc' := 151) B at_149 (Ow.iload (pc' := 153) B at_151 (Ow.iloadN (pc' := 154) B at_153 (Ow.aload (pc' := 156) B at_154 (Ow.aload (pc' := 158) B at_156 ?_)))))))
    have f116 := f26.keep Kh30 Ow.nin0 Ow.nin0
    have f117 := f116.keep Kh37 Ow.nin0 Ow.nin0
    have f118 := f117.keep Kh44 Ow.nin0 Ow.nin0
    have f119 := f118.keep Kh50 Ow.nin0 Ow.nin0
    have f120 := f119.keep Kh52 Ow.nin0 Ow.nin0
    have f121 := f120.keep Kh58 (Ow.ninS (by omega) Ow.nin0) (Ow.ninS (by omega) Ow.nin0)
    have f122 := f48.keep Kh50 Ow.nin0
    have f123 := f122.keep Kh52 Ow.nin0
    have f124 := f123.keep Kh58 (Ow.ninS (by omega) Ow.nin0)
    refine Ow.Go.old (fun o125 => ?_)
    refine Ow.callStatic (pc' := 161) (W := 0) (k' := 26) (n' := 230) (argsL := [(.ref a51), (.ref a49), (.int 0), (.int qa2), (.int ea2), (.int x3), (.ref r23), (.ref r46)]) (rest := []) B at_158 (w43 hw) (w44 hw) (w2 hw) (w45 hw) (gStA hw G GS GI (kd := qa2) o125 f60 (by omega) f61 f62 f66 (by omega) (by omega) (by first|omega|(simp;omega)|simp) f121 hss27 (by omega) (by omega) f124 (by omega) (by omega) (by omega) (by omega) hK2) pd46 ?_
    intro vq126 h127 S128 q126 zh127
    obtain ⟨b129, t130, k131, ds132, f133, f134, rfl, Kh127, f135, f136, f137, f138, f139, f140, rfl⟩ := q126
    have lb129 : (b129 : Nat) < h127.size := f140.lt
    have lt130 : (t130 : Nat) < h127.size := f140.ltt
    refine Ow.Go.norm (S' := [t130, a51, a49]) (st' := [(.int (Int32.ofNat ([] ++ ds132).length))]) (fun _ q => q) rfl ?_
    refine Ow.istore (pc' := 163) (Ls' := #[vI x0, vI x1, vI x2, vI x3, vI 0, vI ea0, vI 0, vI ea1, vI qa2, vI ea2, vR r5, vR r14, vR r23, vR r32, vR r39, vR r46, vR a49, vR a51, vI (Int32.ofNat ([] ++ ds132).length), .unset, .unset, .unset, .unset, .unset]) B at_161 ?_
    have f141 := f60.keep Kh127
    refine Ow.Go.old (fun o142 => ?_)
    exact Ow.Go.mono (k' := 52) (n' := 2400) (by decide) (by decide) (by simp) (segC hw G GS GI B o142 f141 (by omega) f138 f139 f140 (by omega) (by omega) (by omega) (by first|omega|(simp;omega)|simp) f134 (by first|omega|(simp;omega)|simp) (fun _ _ => by decide) (fun _ _ => by decide) (fun _ _ => k13n2 hK2))
   ·refine Ow.aload (pc' := 145) B at_143 (Ow.aload (pc' := 147) B at_145 (Ow.iload (pc' := 149) B at_147 (Ow.iload (pc' := 151) B at_149 (Ow.iload (pc' := 153) B at_151 (Ow.iloadN (pc' := 154) B at_153 (Ow.aload (pc' := 156) B at_154 (Ow.aload (pc' := 158) B at_156 ?_)))))))
    have f143 := f26.keep Kh30 Ow.nin0 Ow.nin0
    have f144 := f143.keep Kh37 Ow.nin0 Ow.nin0
    have f145 := f144.keep Kh44 Ow.nin0 Ow.nin0
    have f146 := f145.keep Kh50 Ow.nin0 Ow.nin0
    have f147 := f146.keep Kh52 Ow.nin0 Ow.nin0
    have f148 := f147.keep Kh58 (Ow.ninS (by omega) Ow.nin0) (Ow.ninS (by omega) Ow.nin0)
    have f149 := f48.keep Kh50 Ow.nin0
    have f150 := f149.keep Kh52 Ow.nin0
    have f151 := f150.keep Kh58 (Ow.ninS (by omega) Ow.nin0)
    refine Ow.Go.old (fun o152 => ?_)
    refine Ow.callStatic (pc' := 161) (W := 0) (k' := 26) (n' := 238) (argsL := [(.ref a51), (.ref a49), (.int 0), (.int 2), (.int ea2), (.int x3), (.ref r23), (.ref r46)]) (rest := []) B at_158 (w43 hw) (w44 hw) (w2 hw) (w45 hw) (gStA2 hw G GS GI o152 f60 (by omega) f61 f62 f66 (by omega) (by omega) (by first|omega|(simp;omega)|simp) f148 hss27 (by omega) (by omega) f151 (by omega) (by omega) (by omega) (by omega)) pd46 ?_
    intro vq153 h154 S155 q153 zh154
    obtain ⟨f156, rfl, Kh154, f157, f158, rfl⟩ := q153
    refine Ow.Go.nr (S' := [a51, a49]) (st' := [(.int (Int32.ofNat ss27.length))]) ?_
    refine Ow.istore (pc' := 163) (Ls' := #[vI x0, vI x1, vI x2, vI x3, vI 0, vI ea0, vI 0, vI ea1, vI 2, vI ea2, vR r5, vR r14, vR r23, vR r32, vR r39, vR r46, vR a49, vR a51, vI (Int32.ofNat ss27.length), .unset, .unset, .unset, .unset, .unset]) B at_161 ?_
    refine Ow.aload (pc' := 165) B at_163 ?_
    refine Ow.Go.old (fun o159 => ?_)
    have f160 := f60.keep Kh154
    have f161 := f148.keep Kh154 (Ow.ninS (by omega) (Ow.ninS (by omega) Ow.nin0)) (Ow.ninS (by omega) (Ow.ninS (by omega) Ow.nin0))
    refine Ow.callVirtual (pc' := 168) (W := 0) (k' := 26) (n' := 238) (argsL := []) (rest := []) (K := "com/example/ply3/ply3/TextWriter") B at_165 (w46 hw) (w47 hw) (w49 hw) (w49 hw) (w48 hw) (w31 hw) (w50 hw) f160 (gTsB hw G GS GI o159 f160 (by omega) f157 f158 f161 (by omega) (by omega) (by first|omega|(simp;omega)|simp)) pd42 ?_
    intro vq162 h163 S164 q162 zh163
    obtain ⟨rfl, rfl, rfl⟩ := q162
    refine Ow.Go.nr (S' := [a51, a49]) (st' := [(.ref r23)]) ?_
    refine Ow.astore (pc' := 170) (Ls' := #[vI x0, vI x1, vI x2, vI x3, vI 0, vI ea0, vI 0, vI ea1, vI 2, vI ea2, vR r5, vR r14, vR r23, vR r32, vR r39, vR r46, vR a49, vR a51, vI (Int32.ofNat ss27.length), vR r23, .unset, .unset, .unset, .unset]) B at_168 ?_
    refine Ow.aload (pc' := 172) B at_170 ?_
    refine Ow.Go.old (fun o165 => ?_)
    refine Ow.callVirtual (pc' := 175) (W := 0) (k' := 26) (n' := 238) (argsL := []) (rest := []) (K := "java/lang/String") B at_172 (w56 hw) (w57 hw) (w59 hw) (w59 hw) (w58 hw) (w6 hw) (w60 hw) (f161).1 (gLen hw G GS GI o165 f161 (by first|omega|(simp;omega)|simp)) pd28 ?_
    intro vq166 h167 S168 q166 zh167
    obtain ⟨rfl, rfl, rfl⟩ := q166
    refine Ow.Go.nr (S' := [a51, a49]) (st' := [(.int (Int32.ofNat ss27.length))]) ?_
    refine Ow.iload (pc' := 177) B at_175 ?_
    refine Ow.icmpF (pc' := 180) B at_177 (teq (rfl)).2 ?_
    refine Ow.aload (pc' := 182) B at_180 (Ow.aload (pc' := 184) B at_182 (Ow.iload (pc' := 186) B at_184 (Ow.iconst (pc' := 187) (x := 0) B at_186 ?_)))
    refine Ow.Go.old (fun o169 => ?_)
    refine Ow.callStatic (pc' := 190) (W := 0) (k' := 26) (n' := 238) (argsL := [(.ref r23), (.ref a49), (.int (Int32.ofNat ss27.length)), (.int 0)]) (rest := []) B at_187 (w67 hw) (w68 hw) (w2 hw) (w69 hw) (gAt hw G GS GI (i := 0) o169 f161 f156 (by first|omega|(simp;omega)|simp) (by omega)) pd47 ?_
    intro vq170 h171 S172 q170 zh171
    obtain ⟨rfl, rfl, rfl⟩ := q170
    refine Ow.Go.nr (S' := [a51, a49]) (st' := [(.int 1)]) ?_
    refine Ow.ifF (pc' := 193) B at_190 (by decide) ?_
    refine Ow.aload (pc' := 195) B at_193 (Ow.aload (pc' := 197) B at_195 (Ow.iload (pc' := 199) B at_197 (Ow.iconst (pc' := 200) (x := 1) B at_199 ?_)))
    refine Ow.Go.old (fun o173 => ?_)
    refine Ow.callStatic (pc' := 203) (W := 0) (k' := 26) (n' := 238) (argsL := [(.ref r23), (.ref a49), (.int (Int32.ofNat ss27.length)), (.int 1)]) (rest := []) B at_200 (w67 hw) (w68 hw) (w2 hw) (w69 hw) (gAt hw G GS GI (i := 1) o173 f161 f156 (by first|omega|(simp;omega)|simp) (by omega)) pd47 ?_
    intro vq174 h175 S176 q174 zh175
    obtain ⟨rfl, rfl, rfl⟩ := q174
    refine Ow.Go.nr (S' := [a51, a49]) (st' := [(.int 1)]) ?_
    refine Ow.ifF (pc' := 206) B at_203 (by decide) ?_
    refine Ow.aload (pc' := 208) B at_206 (Ow.aload (pc' := 210) B at_208 (Ow.iload (pc' := 212) B at_210 (Ow.iconst (pc' := 213) (x := 2) B at_212 ?_)))
    refine Ow.Go.old (fun o177 => ?_)
    refine Ow.callStatic (pc' := 216) (W := 0) (k' := 26) (n' := 238) (argsL := [(.ref r23), (.ref a49), (.int (Int32.ofNat ss27.length)), (.int 2)]) (rest := []) B at_213 (w67 hw) (w68 hw) (w2 hw) (w69 hw) (gAt hw G GS GI (i := 2) o177 f161 f156 (by first|omega|(simp;omega)|simp) (by omega)) pd47 ?_
    intro vq178 h179 S180 q178 zh179
    obtain ⟨rfl, rfl, rfl⟩ := q178
    refine Ow.Go.nr (S' := [a51, a49]) (st' := [(.int 1)]) ?_
    refine Ow.ifF (pc' := 219) B at_216 (by decide) ?_
    refine Ow.aload (pc' := 221) B at_219 (Ow.aload (pc' := 223) B at_221 (Ow.iload (pc' := 225) B at_223 (Ow.iconst (pc' := 226) (x := 3) B at_225 ?_)))
    refine Ow.Go.old (fun o181 => ?_)
    refine Ow.callStatic (pc' := 229) (W := 0) (k' := 26) (n' := 238) (argsL := [(.ref r23), (.ref a49), (.int (Int32.ofNat ss27.length)), (.int 3)]) (rest := []) B at_226 (w67 hw) (w68 hw) (w2 hw) (w69 hw) (gAt hw G GS GI (i := 3) o181 f161 f156 (by first|omega|(simp;omega)|simp) (by omega)) pd47 ?_
    intro vq182 h183 S184 q182 zh183
    obtain ⟨rfl, rfl, rfl⟩ := q182
    refine Ow.Go.nr (S' := [a51, a49]) (st' := [(.int 1)]) ?_
    refine Ow.ifF (pc' := 232) B at_229 (by decide) ?_
    refine Ow.aload (pc' := 234) B at_232 (Ow.aload (pc' := 236) B at_234 (Ow.iload (pc' := 238) B at_236 (Ow.iconst (pc' := 239) (x := 4) B at_238 ?_)))
    refine Ow.Go.old (fun o185 => ?_)
    refine Ow.callStatic (pc' := 242) (W := 0) (k' := 26) (n' := 238) (argsL := [(.ref r23), (.ref a49), (.int (Int32.ofNat ss27.length)), (.int 4)]) (rest := []) B at_239 (w67 hw) (w68 hw) (w2 hw) (w69 hw) (gAt hw G GS GI (i := 4) o185 f161 f156 (by first|omega|(simp;omega)|simp) (by omega)) pd47 ?_
    intro vq186 h187 S188 q186 zh187
    obtain ⟨rfl, rfl, rfl⟩ := q186
    refine Ow.Go.nr (S' := [a51, a49]) (st' := [(.int 1)]) ?_
    refine Ow.ifF (pc' := 245) B at_242 (by decide) ?_
    refine Ow.aload (pc' := 247) B at_245 (Ow.aload (pc' := 249) B at_247 (Ow.iload (pc' := 251) B at_249 (Ow.iconst (pc' := 252) (x := 5) B at_251 ?_)))
    refine Ow.Go.old (fun o189 => ?_)
    refine Ow.callStatic (pc' := 255) (W := 0) (k' := 26) (n' := 238) (argsL := [(.ref r23), (.ref a49), (.int (Int32.ofNat ss27.length)), (.int 5)]) (rest := []) B at_252 (w67 hw) (w68 hw) (w2 hw) (w69 hw) (gAt hw G GS GI (i := 5) o189 f161 f156 (by first|omega|(simp;omega)|simp) (by omega)) pd47 ?_
    intro vq190 h191 S192 q190 zh191
    obtain ⟨rfl, rfl, rfl⟩ := q190
    refine Ow.Go.nr (S' := [a51, a49]) (st' := [(.int 1)]) ?_
    refine Ow.ifF (pc' := 258) B at_255 (by decide) ?_
    refine Ow.iconst (pc' := 259) (x := 1) B at_258 ?_
    refine Ow.goto (pc' := 263) B at_259 ?_
    refine Ow.istore (pc' := 265) (Ls' := #[vI x0, vI x1, vI x2, vI x3, vI 0, vI ea0, vI 0, vI ea1, vI 2, vI ea2, vR r5, vR r14, vR r23, vR r32, vR r39, vR r46, vR a49, vR a51, vI (Int32.ofNat ss27.length), vR r23, vI 1, .unset, .unset, .unset]) B at_263 ?_
    refine Ow.iload (pc' := 267) B at_265 ?_
    refine Ow.ifT (pc' := 274) B at_267 (by decide) ?_
    refine Ow.iconst (pc' := 275) (x := 0) B at_274 (Ow.iload (pc' := 277) B at_275 ?_)
    refine Ow.ifT (pc' := 284) B at_277 (by decide) ?_
    refine Ow.iconst (pc' := 285) (x := 0) B at_284 ?_
    refine Ow.iadd (pc' := 286) (z := 0) B at_285 ?_
    refine Ow.iload (pc' := 288) B at_286 ?_
    refine Ow.ifF (pc' := 291) B at_288 (by decide) ?_
    refine Ow.iconst (pc' := 292) (x := 1) B at_291 ?_
    refine Ow.goto (pc' := 296) B at_292 ?_
    refine Ow.iadd (pc' := 297) (z := 1) B at_296 ?_
    refine Ow.istore (pc' := 299) (Ls' := #[vI x0, vI x1, vI x2, vI x3, vI 0, vI ea0, vI 0, vI ea1, vI 2, vI ea2, vR r5, vR r14, vR r23, vR r32, vR r39, vR r46, vR a49, vR a51, vI (Int32.ofNat ss27.length), vR r23, vI 1, vI 1, .unset, .unset]) B at_297 ?_
    refine Ow.iload (pc' := 301) B at_299 (Ow.iconst (pc' := 302) (x := 1) B at_301 ?_)
    refine Ow.icmpF (pc' := 305) B at_302 (by decide) ?_
    refine Ow.iload (pc' := 307) B at_305 ?_
    refine Ow.ifT (pc' := 315) B at_307 (by decide) ?_
    refine Ow.iload (pc' := 317) B at_315 ?_
    refine Ow.ifT (pc' := 325) B at_317 (by decide) ?_
    refine Ow.iload (pc' := 327) B at_325 ?_
    refine Ow.istore (pc' := 329) (Ls' := #[vI x0, vI x1, vI x2, vI x3, vI 0, vI ea0, vI 0, vI ea1, vI 2, vI ea2, vR r5, vR r14, vR r23, vR r32, vR r39, vR r46, vR a49, vR a51, vI (Int32.ofNat ss27.length), vR r23, vI 1, vI 1, vI 2, .unset]) B at_327 ?_
    refine Ow.iload (pc' := 331) B at_329 ?_
    refine Ow.ifT (pc' := 339) B at_331 (by decide) ?_
    refine Ow.iload (pc' := 341) B at_339 ?_
    refine Ow.ifT (pc' := 349) B at_341 (by decide) ?_
    refine Ow.aload (pc' := 351) B at_349 ?_
    refine Ow.astore (pc' := 353) (Ls' := #[vI x0, vI x1, vI x2, vI x3, vI 0, vI ea0, vI 0, vI ea1, vI 2, vI ea2, vR r5, vR r14, vR r23, vR r32, vR r39, vR r46, vR a49, vR a51, vI (Int32.ofNat ss27.length), vR r23, vI 1, vI 1, vI 2, vR r23]) B at_351 ?_
    refine Ow.iload (pc' := 355) B at_353 (Ow.iconst (pc' := 356) (x := 2) B at_355 ?_)
    refine Ow.icmpF (pc' := 359) B at_356 (by decide) ?_
    refine Ow.iload (pc' := 361) B at_359 ?_
    refine Ow.ifF (pc' := 364) B at_361 (by decide) ?_
    refine Ow.aload (pc' := 366) B at_364 (Ow.aload (pc' := 368) B at_366 ?_)
    refine Ow.acmpR (pc' := 371) (same := true) B at_368 (decide_eq_true rfl) ?_
    refine Ow.iconst (pc' := 372) (x := 1) B at_371 ?_
    refine Ow.goto (pc' := 376) B at_372 ?_
    refine Ow.istore (pc' := 378) (Ls' := #[vI x0, vI x1, vI x2, vI x3, vI 0, vI ea0, vI 0, vI ea1, vI 2, vI ea2, vR r5, vR r14, vR r23, vR r32, vR r39, vR r46, vR a49, vR a51, vI (Int32.ofNat ss27.length), vR r23, vI 1, vI 1, vI 2, vR r23]) B at_376 ?_
    refine Ow.iload (pc' := 380) B at_378 ?_
    exact Ow.retI (S' := []) (t := .boolean) B at_380 (rfl)
  ·refine Ow.aload (pc' := 125) B at_123 (Ow.aload (pc' := 127) B at_125 (Ow.iload (pc' := 129) B at_127 (Ow.iload (pc' := 131) B at_129 (Ow.iload (pc' := 133) B at_131 (Ow.iloadN (pc' := 134) B at_133 (Ow.aload (pc' := 136) B at_134 (Ow.aload (pc' := 138) B at_136 ?_)))))))
   have f193 := f17.keep Kh21 Ow.nin0 Ow.nin0
   have f194 := f193.keep Kh30 Ow.nin0 Ow.nin0
   have f195 := f194.keep Kh37 Ow.nin0 Ow.nin0
   have f196 := f195.keep Kh44 Ow.nin0 Ow.nin0
   have f197 := f196.keep Kh50 Ow.nin0 Ow.nin0
   have f198 := f197.keep Kh52 Ow.nin0 Ow.nin0
   have f199 := f198.keep Kh58 (Ow.ninS (by omega) Ow.nin0) (Ow.ninS (by omega) Ow.nin0)
   have f200 := f41.keep Kh44 Ow.nin0
   have f201 := f200.keep Kh50 Ow.nin0
   have f202 := f201.keep Kh52 Ow.nin0
   have f203 := f202.keep Kh58 (Ow.ninS (by omega) Ow.nin0)
   refine Ow.Go.old (fun o204 => ?_)
   refine Ow.callStatic (pc' := 141) (W := 0) (k' := 26) (n' := 230) (argsL := [(.ref a51), (.ref a49), (.int 0), (.int qa1), (.int ea1), (.int x2), (.ref r14), (.ref r39)]) (rest := []) B at_138 (w43 hw) (w44 hw) (w2 hw) (w45 hw) (gStA hw G GS GI (kd := qa1) o204 f60 (by omega) f61 f62 f66 (by omega) (by omega) (by first|omega|(simp;omega)|simp) f199 hss18 (by omega) (by omega) f203 (by omega) (by omega) (by omega) (by omega) hK1) pd46 ?_
   intro vq205 h206 S207 q205 zh206
   obtain ⟨b208, t209, k210, ds211, f212, f213, rfl, Kh206, f214, f215, f216, f217, f218, f219, rfl⟩ := q205
   have lb208 : (b208 : Nat) < h206.size := f219.lt
   have lt209 : (t209 : Nat) < h206.size := f219.ltt
   refine Ow.Go.norm (S' := [t209, a51, a49]) (st' := [(.int (Int32.ofNat ([] ++ ds211).length))]) (fun _ q => q) rfl ?_
   refine Ow.istore (pc' := 143) (Ls' := #[vI x0, vI x1, vI x2, vI x3, vI 0, vI ea0, vI qa1, vI ea1, vI qa2, vI ea2, vR r5, vR r14, vR r23, vR r32, vR r39, vR r46, vR a49, vR a51, vI (Int32.ofNat ([] ++ ds211).length), .unset, .unset, .unset, .unset, .unset]) B at_141 ?_
   refine Ow.aload (pc' := 145) B at_143 (Ow.aload (pc' := 147) B at_145 (Ow.iload (pc' := 149) B at_147 (Ow.iload (pc' := 151) B at_149 (Ow.iload (pc' := 153) B at_151 (Ow.iloadN (pc' := 154) B at_153 (Ow.aload (pc' := 156) B at_154 (Ow.aload (pc' := 158) B at_156 ?_)))))))
   have f220 := f60.keep Kh206
   have f221 := f26.keep Kh30 Ow.nin0 Ow.nin0
   have f222 := f221.keep Kh37 Ow.nin0 Ow.nin0
   have f223 := f222.keep Kh44 Ow.nin0 Ow.nin0
   have f224 := f223.keep Kh50 Ow.nin0 Ow.nin0
   have f225 := f224.keep Kh52 Ow.nin0 Ow.nin0
   have f226 := f225.keep Kh58 (Ow.ninS (by omega) Ow.nin0) (Ow.ninS (by omega) Ow.nin0)
   have f227 := f226.keep Kh206 (Ow.ninS (by omega) (Ow.ninS (by omega) Ow.nin0)) (Ow.ninS (by omega) (Ow.ninS (by omega) Ow.nin0))
   have f228 := f48.keep Kh50 Ow.nin0
   have f229 := f228.keep Kh52 Ow.nin0
   have f230 := f229.keep Kh58 (Ow.ninS (by omega) Ow.nin0)
   have f231 := f230.keep Kh206 (Ow.ninS (by omega) (Ow.ninS (by omega) Ow.nin0))
   refine Ow.Go.old (fun o232 => ?_)
   refine Ow.callStatic (pc' := 161) (W := 0) (k' := 29) (n' := 290) (argsL := [(.ref a51), (.ref a49), (.int (Int32.ofNat ([] ++ ds211).length)), (.int qa2), (.int ea2), (.int x3), (.ref r23), (.ref r46)]) (rest := []) B at_158 (w43 hw) (w44 hw) (w2 hw) (w45 hw) (gStC hw G GS GI (kd := qa2) o232 f220 (by omega) f217 f218 f219 (by omega) (by omega) (by omega) (by first|omega|(simp;omega)|simp) f213 (by omega) (by omega) (by first|omega|(simp;omega)|simp) f227 hss27 (by omega) (by omega) f231 (by omega) (by omega) (by omega) (by omega)) pd46 ?_
   intro vq233 h234 S235 q233 zh234
   obtain ⟨b236, t237, k238, ds239, f240, f241, rfl, Kh234, f242, f243, f244, f245, f246, f247, rfl⟩ := q233
   have lb236 : (b236 : Nat) < h234.size := f247.lt
   have lt237 : (t237 : Nat) < h234.size := f247.ltt
   refine Ow.Go.norm (S' := [t237, t209, a51, a49]) (st' := [(.int (Int32.ofNat (([] ++ ds211) ++ ds239).length))]) (fun _ q => q) rfl ?_
   refine Ow.istore (pc' := 163) (Ls' := #[vI x0, vI x1, vI x2, vI x3, vI 0, vI ea0, vI qa1, vI ea1, vI qa2, vI ea2, vR r5, vR r14, vR r23, vR r32, vR r39, vR r46, vR a49, vR a51, vI (Int32.ofNat (([] ++ ds211) ++ ds239).length), .unset, .unset, .unset, .unset, .unset]) B at_161 ?_
   have f248 := f220.keep Kh234
   refine Ow.Go.old (fun o249 => ?_)
   exact Ow.Go.mono (k' := 52) (n' := 2400) (by decide) (by decide) (by simp) (segC hw G GS GI B o249 f248 (by omega) f245 f246 f247 (by omega) (by omega) (by omega) (by first|omega|(simp;omega)|simp) f241 (by first|omega|(simp;omega)|simp) (fun _ _ => by decide) (fun _ _ => k13n2 hK1) (fun _ q => absurd q (k13n0 hK1)))
  ·refine Ow.aload (pc' := 125) B at_123 (Ow.aload (pc' := 127) B at_125 (Ow.iload (pc' := 129) B at_127 (Ow.iload (pc' := 131) B at_129 (Ow.iload (pc' := 133) B at_131 (Ow.iloadN (pc' := 134) B at_133 (Ow.aload (pc' := 136) B at_134 (Ow.aload (pc' := 138) B at_136 ?_)))))))
   have f250 := f17.keep Kh21 Ow.nin0 Ow.nin0
   have f251 := f250.keep Kh30 Ow.nin0 Ow.nin0
   have f252 := f251.keep Kh37 Ow.nin0 Ow.nin0
   have f253 := f252.keep Kh44 Ow.nin0 Ow.nin0
   have f254 := f253.keep Kh50 Ow.nin0 Ow.nin0
   have f255 := f254.keep Kh52 Ow.nin0 Ow.nin0
   have f256 := f255.keep Kh58 (Ow.ninS (by omega) Ow.nin0) (Ow.ninS (by omega) Ow.nin0)
   have f257 := f41.keep Kh44 Ow.nin0
   have f258 := f257.keep Kh50 Ow.nin0
   have f259 := f258.keep Kh52 Ow.nin0
   have f260 := f259.keep Kh58 (Ow.ninS (by omega) Ow.nin0)
   refine Ow.Go.old (fun o261 => ?_)
   refine Ow.callStatic (pc' := 141) (W := 0) (k' := 26) (n' := 238) (argsL := [(.ref a51), (.ref a49), (.int 0), (.int 2), (.int ea1), (.int x2), (.ref r14), (.ref r39)]) (rest := []) B at_138 (w43 hw) (w44 hw) (w2 hw) (w45 hw) (gStA2 hw G GS GI o261 f60 (by omega) f61 f62 f66 (by omega) (by omega) (by first|omega|(simp;omega)|simp) f256 hss18 (by omega) (by omega) f260 (by omega) (by omega) (by omega) (by omega)) pd46 ?_
   intro vq262 h263 S264 q262 zh263
   obtain ⟨f265, rfl, Kh263, f266, f267, rfl⟩ := q262
   refine Ow.Go.nr (S' := [a51, a49]) (st' := [(.int (Int32.ofNat ss18.length))]) ?_
   refine Ow.istore (pc' := 143) (Ls' := #[vI x0, vI x1, vI x2, vI x3, vI 0, vI ea0, vI 2, vI ea1, vI qa2, vI ea2, vR r5, vR r14, vR r23, vR r32, vR r39, vR r46, vR a49, vR a51, vI (Int32.ofNat ss18.length), .unset, .unset, .unset, .unset, .unset]) B at_141 ?_
   rcases kB hk2 with rfl | hK2
   ·refine Ow.aload (pc' := 145) B at_143 (Ow.aload (pc' := 147) B at_145 (Ow.iload (pc' := 149) B at_147 (Ow.iload (pc' := 151) B at_149 (Ow.iload (pc' := 153) B at_151 (Ow.iloadN (pc' := 154) B at_153 (Ow.aload (pc' := 156) B at_154 (Ow.aload (pc' := 158) B at_156 ?_)))))))
    refine Ow.Go.old (fun o268 => ?_)
    refine Ow.callStatic (pc' := 161) (W := 0) (k' := 26) (n' := 238) (argsL := [(.ref a51), (.ref a49), (.int (Int32.ofNat ss18.length)), (.int 0), (.int ea2), (.int x3), (.ref r23), (.ref r46)]) (rest := []) B at_158 (w43 hw) (w44 hw) (w2 hw) (w45 hw) (gSt0 hw G GS GI o268) pd46 ?_
    intro vq269 h270 S271 q269 zh270
    obtain ⟨rfl, rfl, rfl⟩ := q269
    refine Ow.Go.nr (S' := [a51, a49]) (st' := [(.int (Int32.ofNat ss18.length))]) ?_
    refine Ow.istore (pc' := 163) (Ls' := #[vI x0, vI x1, vI x2, vI x3, vI 0, vI ea0, vI 2, vI ea1, vI 0, vI ea2, vR r5, vR r14, vR r23, vR r32, vR r39, vR r46, vR a49, vR a51, vI (Int32.ofNat ss18.length), .unset, .unset, .unset, .unset, .unset]) B at_161 ?_
    refine Ow.aload (pc' := 165) B at_163 ?_
    refine Ow.Go.old (fun o272 => ?_)
    have f273 := f60.keep Kh263
    have f274 := f256.keep Kh263 (Ow.ninS (by omega) (Ow.ninS (by omega) Ow.nin0)) (Ow.ninS (by omega) (Ow.ninS (by omega) Ow.nin0))
    refine Ow.callVirtual (pc' := 168) (W := 0) (k' := 26) (n' := 238) (argsL := []) (rest := []) (K := "com/example/ply3/ply3/TextWriter") B at_165 (w46 hw) (w47 hw) (w49 hw) (w49 hw) (w48 hw) (w31 hw) (w50 hw) f273 (gTsB hw G GS GI o272 f273 (by omega) f266 f267 f274 (by omega) (by omega) (by first|omega|(simp;omega)|simp)) pd42 ?_
    intro vq275 h276 S277 q275 zh276
    obtain ⟨rfl, rfl, rfl⟩ := q275
    refine Ow.Go.nr (S' := [a51, a49]) (st' := [(.ref r14)]) ?_
    refine Ow.astore (pc' := 170) (Ls' := #[vI x0, vI x1, vI x2, vI x3, vI 0, vI ea0, vI 2, vI ea1, vI 0, vI ea2, vR r5, vR r14, vR r23, vR r32, vR r39, vR r46, vR a49, vR a51, vI (Int32.ofNat ss18.length), vR r14, .unset, .unset, .unset, .unset]) B at_168 ?_
    refine Ow.aload (pc' := 172) B at_170 ?_
    refine Ow.Go.old (fun o278 => ?_)
    refine Ow.callVirtual (pc' := 175) (W := 0) (k' := 26) (n' := 238) (argsL := []) (rest := []) (K := "java/lang/String") B at_172 (w56 hw) (w57 hw) (w59 hw) (w59 hw) (w58 hw) (w6 hw) (w60 hw) (f274).1 (gLen hw G GS GI o278 f274 (by first|omega|(simp;omega)|simp)) pd28 ?_
    intro vq279 h280 S281 q279 zh280
    obtain ⟨rfl, rfl, rfl⟩ := q279
    refine Ow.Go.nr (S' := [a51, a49]) (st' := [(.int (Int32.ofNat ss18.length))]) ?_
    refine Ow.iload (pc' := 177) B at_175 ?_
    refine Ow.icmpF (pc' := 180) B at_177 (teq (rfl)).2 ?_
    refine Ow.aload (pc' := 182) B at_180 (Ow.aload (pc' := 184) B at_182 (Ow.iload (pc' := 186) B at_184 (Ow.iconst (pc' := 187) (x := 0) B at_186 ?_)))
    refine Ow.Go.old (fun o282 => ?_)
    refine Ow.callStatic (pc' := 190) (W := 0) (k' := 26) (n' := 238) (argsL := [(.ref r14), (.ref a49), (.int (Int32.ofNat ss18.length)), (.int 0)]) (rest := []) B at_187 (w67 hw) (w68 hw) (w2 hw) (w69 hw) (gAt hw G GS GI (i := 0) o282 f274 f265 (by first|omega|(simp;omega)|simp) (by omega)) pd47 ?_
    intro vq283 h284 S285 q283 zh284
    obtain ⟨rfl, rfl, rfl⟩ := q283
    refine Ow.Go.nr (S' := [a51, a49]) (st' := [(.int 1)]) ?_
    refine Ow.ifF (pc' := 193) B at_190 (by decide) ?_
    refine Ow.aload (pc' := 195) B at_193 (Ow.aload (pc' := 197) B at_195 (Ow.iload (pc' := 199) B at_197 (Ow.iconst (pc' := 200) (x := 1) B at_199 ?_)))
    refine Ow.Go.old (fun o286 => ?_)
    refine Ow.callStatic (pc' := 203) (W := 0) (k' := 26) (n' := 238) (argsL := [(.ref r14), (.ref a49), (.int (Int32.ofNat ss18.length)), (.int 1)]) (rest := []) B at_200 (w67 hw) (w68 hw) (w2 hw) (w69 hw) (gAt hw G GS GI (i := 1) o286 f274 f265 (by first|omega|(simp;omega)|simp) (by omega)) pd47 ?_
    intro vq287 h288 S289 q287 zh288
    obtain ⟨rfl, rfl, rfl⟩ := q287
    refine Ow.Go.nr (S' := [a51, a49]) (st' := [(.int 1)]) ?_
    refine Ow.ifF (pc' := 206) B at_203 (by decide) ?_
    refine Ow.aload (pc' := 208) B at_206 (Ow.aload (pc' := 210) B at_208 (Ow.iload (pc' := 212) B at_210 (Ow.iconst (pc' := 213) (x := 2) B at_212 ?_)))
    refine Ow.Go.old (fun o290 => ?_)
    refine Ow.callStatic (pc' := 216) (W := 0) (k' := 26) (n' := 238) (argsL := [(.ref r14), (.ref a49), (.int (Int32.ofNat ss18.length)), (.int 2)]) (rest := []) B at_213 (w67 hw) (w68 hw) (w2 hw) (w69 hw) (gAt hw G GS GI (i := 2) o290 f274 f265 (by first|omega|(simp;omega)|simp) (by omega)) pd47 ?_
    intro vq291 h292 S293 q291 zh292
    obtain ⟨rfl, rfl, rfl⟩ := q291
    refine Ow.Go.nr (S' := [a51, a49]) (st' := [(.int 1)]) ?_
    refine Ow.ifF (pc' := 219) B at_216 (by decide) ?_
    refine Ow.aload (pc' := 221) B at_219 (Ow.aload (pc' := 223) B at_221 (Ow.iload (pc' := 225) B at_223 (Ow.iconst (pc' := 226) (x := 3) B at_225 ?_)))
    refine Ow.Go.old (fun o294 => ?_)
    refine Ow.callStatic (pc' := 229) (W := 0) (k' := 26) (n' := 238) (argsL := [(.ref r14), (.ref a49), (.int (Int32.ofNat ss18.length)), (.int 3)]) (rest := []) B at_226 (w67 hw) (w68 hw) (w2 hw) (w69 hw) (gAt hw G GS GI (i := 3) o294 f274 f265 (by first|omega|(simp;omega)|simp) (by omega)) pd47 ?_
    intro vq295 h296 S297 q295 zh296
    obtain ⟨rfl, rfl, rfl⟩ := q295
    refine Ow.Go.nr (S' := [a51, a49]) (st' := [(.int 1)]) ?_
    refine Ow.ifF (pc' := 232) B at_229 (by decide) ?_
    refine Ow.aload (pc' := 234) B at_232 (Ow.aload (pc' := 236) B at_234 (Ow.iload (pc' := 238) B at_236 (Ow.iconst (pc' := 239) (x := 4) B at_238 ?_)))
    refine Ow.Go.old (fun o298 => ?_)
    refine Ow.callStatic (pc' := 242) (W := 0) (k' := 26) (n' := 238) (argsL := [(.ref r14), (.ref a49), (.int (Int32.ofNat ss18.length)), (.int 4)]) (rest := []) B at_239 (w67 hw) (w68 hw) (w2 hw) (w69 hw) (gAt hw G GS GI (i := 4) o298 f274 f265 (by first|omega|(simp;omega)|simp) (by omega)) pd47 ?_
    intro vq299 h300 S301 q299 zh300
    obtain ⟨rfl, rfl, rfl⟩ := q299
    refine Ow.Go.nr (S' := [a51, a49]) (st' := [(.int 1)]) ?_
    refine Ow.ifF (pc' := 245) B at_242 (by decide) ?_
    refine Ow.aload (pc' := 247) B at_245 (Ow.aload (pc' := 249) B at_247 (Ow.iload (pc' := 251) B at_249 (Ow.iconst (pc' := 252) (x := 5) B at_251 ?_)))
    refine Ow.Go.old (fun o302 => ?_)
    refine Ow.callStatic (pc' := 255) (W := 0) (k' := 26) (n' := 238) (argsL := [(.ref r14), (.ref a49), (.int (Int32.ofNat ss18.length)), (.int 5)]) (rest := []) B at_252 (w67 hw) (w68 hw) (w2 hw) (w69 hw) (gAt hw G GS GI (i := 5) o302 f274 f265 (by first|omega|(simp;omega)|simp) (by omega)) pd47 ?_
    intro vq303 h304 S305 q303 zh304
    obtain ⟨rfl, rfl, rfl⟩ := q303
    refine Ow.Go.nr (S' := [a51, a49]) (st' := [(.int 1)]) ?_
    refine Ow.ifF (pc' := 258) B at_255 (by decide) ?_
    refine Ow.iconst (pc' := 259) (x := 1) B at_258 ?_
    refine Ow.goto (pc' := 263) B at_259 ?_
    refine Ow.istore (pc' := 265) (Ls' := #[vI x0, vI x1, vI x2, vI x3, vI 0, vI ea0, vI 2, vI ea1, vI 0, vI ea2, vR r5, vR r14, vR r23, vR r32, vR r39, vR r46, vR a49, vR a51, vI (Int32.ofNat ss18.length), vR r14, vI 1, .unset, .unset, .unset]) B at_263 ?_
    refine Ow.iload (pc' := 267) B at_265 ?_
    refine Ow.ifT (pc' := 274) B at_267 (by decide) ?_
    refine Ow.iconst (pc' := 275) (x := 0) B at_274 (Ow.iload (pc' := 277) B at_275 ?_)
    refine Ow.ifF (pc' := 280) B at_277 (by decide) ?_
    refine Ow.iconst (pc' := 281) (x := 1) B at_280 ?_
    refine Ow.goto (pc' := 285) B at_281 ?_
    refine Ow.iadd (pc' := 286) (z := 1) B at_285 ?_
    refine Ow.iload (pc' := 288) B at_286 ?_
    refine Ow.ifT (pc' := 295) B at_288 (by decide) ?_
    refine Ow.iconst (pc' := 296) (x := 0) B at_295 ?_
    refine Ow.iadd (pc' := 297) (z := 1) B at_296 ?_
    refine Ow.istore (pc' := 299) (Ls' := #[vI x0, vI x1, vI x2, vI x3, vI 0, vI ea0, vI 2, vI ea1, vI 0, vI ea2, vR r5, vR r14, vR r23, vR r32, vR r39, vR r46, vR a49, vR a51, vI (Int32.ofNat ss18.length), vR r14, vI 1, vI 1, .unset, .unset]) B at_297 ?_
    refine Ow.iload (pc' := 301) B at_299 (Ow.iconst (pc' := 302) (x := 1) B at_301 ?_)
    refine Ow.icmpF (pc' := 305) B at_302 (by decide) ?_
    refine Ow.iload (pc' := 307) B at_305 ?_
    refine Ow.ifT (pc' := 315) B at_307 (by decide) ?_
    refine Ow.iload (pc' := 317) B at_315 ?_
    refine Ow.ifF (pc' := 320) B at_317 (by decide) ?_
    refine Ow.iload (pc' := 322) B at_320 ?_
    refine Ow.goto (pc' := 327) B at_322 ?_
    refine Ow.istore (pc' := 329) (Ls' := #[vI x0, vI x1, vI x2, vI x3, vI 0, vI ea0, vI 2, vI ea1, vI 0, vI ea2, vR r5, vR r14, vR r23, vR r32, vR r39, vR r46, vR a49, vR a51, vI (Int32.ofNat ss18.length), vR r14, vI 1, vI 1, vI 2, .unset]) B at_327 ?_
    refine Ow.iload (pc' := 331) B at_329 ?_
    refine Ow.ifT (pc' := 339) B at_331 (by decide) ?_
    refine Ow.iload (pc' := 341) B at_339 ?_
    refine Ow.ifF (pc' := 344) B at_341 (by decide) ?_
    refine Ow.aload (pc' := 346) B at_344 ?_
    refine Ow.goto (pc' := 351) B at_346 ?_
    refine Ow.astore (pc' := 353) (Ls' := #[vI x0, vI x1, vI x2, vI x3, vI 0, vI ea0, vI 2, vI ea1, vI 0, vI ea2, vR r5, vR r14, vR r23, vR r32, vR r39, vR r46, vR a49, vR a51, vI (Int32.ofNat ss18.length), vR r14, vI 1, vI 1, vI 2, vR r14]) B at_351 ?_
    refine Ow.iload (pc' := 355) B at_353 (Ow.iconst (pc' := 356) (x := 2) B at_355 ?_)
    refine Ow.icmpF (pc' := 359) B at_356 (by decide) ?_
    refine Ow.iload (pc' := 361) B at_359 ?_
    refine Ow.ifF (pc' := 364) B at_361 (by decide) ?_
    refine Ow.aload (pc' := 366) B at_364 (Ow.aload (pc' := 368) B at_366 ?_)
    refine Ow.acmpR (pc' := 371) (same := true) B at_368 (decide_eq_true rfl) ?_
    refine Ow.iconst (pc' := 372) (x := 1) B at_371 ?_
    refine Ow.goto (pc' := 376) B at_372 ?_
    refine Ow.istore (pc' := 378) (Ls' := #[vI x0, vI x1, vI x2, vI x3, vI 0, vI ea0, vI 2, vI ea1, vI 0, vI ea2, vR r5, vR r14, vR r23, vR r32, vR r39, vR r46, vR a49, vR a51, vI (Int32.ofNat ss18.length), vR r14, vI 1, vI 1, vI 2, vR r14]) B at_376 ?_
    refine Ow.iload (pc' := 380) B at_378 ?_
    exact Ow.retI (S' := []) (t := .boolean) B at_380 (rfl)
   ·refine Ow.aload (pc' := 145) B at_143 (Ow.aload (pc' := 147) B at_145 (Ow.iload (pc' := 149) B at_147 (Ow.iload (pc' := 151) B at_149 (Ow.iload (pc' := 153) B at_151 (Ow.iloadN (pc' := 154) B at_153 (Ow.aload (pc' := 156) B at_154 (Ow.aload (pc' := 158) B at_156 ?_)))))))
    have f306 := f60.keep Kh263
    have f307 := f256.keep Kh263 (Ow.ninS (by omega) (Ow.ninS (by omega) Ow.nin0)) (Ow.ninS (by omega) (Ow.ninS (by omega) Ow.nin0))
    have f308 := f26.keep Kh30 Ow.nin0 Ow.nin0
    have f309 := f308.keep Kh37 Ow.nin0 Ow.nin0
    have f310 := f309.keep Kh44 Ow.nin0 Ow.nin0
    have f311 := f310.keep Kh50 Ow.nin0 Ow.nin0
    have f312 := f311.keep Kh52 Ow.nin0 Ow.nin0
    have f313 := f312.keep Kh58 (Ow.ninS (by omega) Ow.nin0) (Ow.ninS (by omega) Ow.nin0)
    have f314 := f313.keep Kh263 (Ow.ninS (by omega) (Ow.ninS (by omega) Ow.nin0)) (Ow.ninS (by omega) (Ow.ninS (by omega) Ow.nin0))
    have f315 := f48.keep Kh50 Ow.nin0
    have f316 := f315.keep Kh52 Ow.nin0
    have f317 := f316.keep Kh58 (Ow.ninS (by omega) Ow.nin0)
    have f318 := f317.keep Kh263 (Ow.ninS (by omega) (Ow.ninS (by omega) Ow.nin0))
    refine Ow.Go.old (fun o319 => ?_)
    refine Ow.callStatic (pc' := 161) (W := 0) (k' := 32) (n' := 350) (argsL := [(.ref a51), (.ref a49), (.int (Int32.ofNat ss18.length)), (.int qa2), (.int ea2), (.int x3), (.ref r23), (.ref r46)]) (rest := []) B at_158 (w43 hw) (w44 hw) (w2 hw) (w45 hw) (gStB hw G GS GI (kd := qa2) o319 f306 (by omega) f266 f267 f307 (by omega) (by omega) (by first|omega|(simp;omega)|simp) f265 (by omega) (by omega) (by first|omega|(simp;omega)|simp) f314 hss27 (by omega) (by omega) f318 (by omega) (by omega) (by omega) (by omega) hK2) pd46 ?_
    intro vq320 h321 S322 q320 zh321
    obtain ⟨b323, t324, k325, ds326, f327, f328, rfl, Kh321, f329, f330, f331, f332, f333, f334, rfl⟩ := q320
    have lb323 : (b323 : Nat) < h321.size := f334.lt
    have lt324 : (t324 : Nat) < h321.size := f334.ltt
    refine Ow.Go.norm (S' := [t324, a51, a49]) (st' := [(.int (Int32.ofNat (ss18 ++ ds326).length))]) (fun _ q => q) rfl ?_
    refine Ow.istore (pc' := 163) (Ls' := #[vI x0, vI x1, vI x2, vI x3, vI 0, vI ea0, vI 2, vI ea1, vI qa2, vI ea2, vR r5, vR r14, vR r23, vR r32, vR r39, vR r46, vR a49, vR a51, vI (Int32.ofNat (ss18 ++ ds326).length), .unset, .unset, .unset, .unset, .unset]) B at_161 ?_
    have f335 := f306.keep Kh321
    refine Ow.Go.old (fun o336 => ?_)
    exact Ow.Go.mono (k' := 52) (n' := 2400) (by decide) (by decide) (by simp) (segC hw G GS GI B o336 f335 (by omega) f332 f333 f334 (by omega) (by omega) (by omega) (by first|omega|(simp;omega)|simp) f328 (by first|omega|(simp;omega)|simp) (fun _ _ => by decide) (fun _ q => absurd q (k123n0 hK2)) (fun _ q => absurd q (by decide)))
 ·refine Ow.aload (pc' := 105) B at_103 (Ow.aload (pc' := 107) B at_105 (Ow.iload (pc' := 109) B at_107 (Ow.iload (pc' := 111) B at_109 (Ow.iload (pc' := 113) B at_111 (Ow.iloadN (pc' := 114) B at_113 (Ow.aload (pc' := 116) B at_114 (Ow.aload (pc' := 118) B at_116 ?_)))))))
  have f337 := f8.keep Kh12 Ow.nin0 Ow.nin0
  have f338 := f337.keep Kh21 Ow.nin0 Ow.nin0
  have f339 := f338.keep Kh30 Ow.nin0 Ow.nin0
  have f340 := f339.keep Kh37 Ow.nin0 Ow.nin0
  have f341 := f340.keep Kh44 Ow.nin0 Ow.nin0
  have f342 := f341.keep Kh50 Ow.nin0 Ow.nin0
  have f343 := f342.keep Kh52 Ow.nin0 Ow.nin0
  have f344 := f343.keep Kh58 (Ow.ninS (by omega) Ow.nin0) (Ow.ninS (by omega) Ow.nin0)
  have f345 := f34.keep Kh37 Ow.nin0
  have f346 := f345.keep Kh44 Ow.nin0
  have f347 := f346.keep Kh50 Ow.nin0
  have f348 := f347.keep Kh52 Ow.nin0
  have f349 := f348.keep Kh58 (Ow.ninS (by omega) Ow.nin0)
  refine Ow.Go.old (fun o350 => ?_)
  refine Ow.callStatic (pc' := 121) (W := 0) (k' := 26) (n' := 230) (argsL := [(.ref a51), (.ref a49), (.int 0), (.int qa0), (.int ea0), (.int x1), (.ref r5), (.ref r32)]) (rest := []) B at_118 (w43 hw) (w44 hw) (w2 hw) (w45 hw) (gStA hw G GS GI (kd := qa0) o350 f60 (by omega) f61 f62 f66 (by omega) (by omega) (by first|omega|(simp;omega)|simp) f344 hss9 (by omega) (by omega) f349 (by omega) (by omega) (by omega) (by omega) hK0) pd46 ?_
  intro vq351 h352 S353 q351 zh352
  obtain ⟨b354, t355, k356, ds357, f358, f359, rfl, Kh352, f360, f361, f362, f363, f364, f365, rfl⟩ := q351
  have lb354 : (b354 : Nat) < h352.size := f365.lt
  have lt355 : (t355 : Nat) < h352.size := f365.ltt
  refine Ow.Go.norm (S' := [t355, a51, a49]) (st' := [(.int (Int32.ofNat ([] ++ ds357).length))]) (fun _ q => q) rfl ?_
  refine Ow.istore (pc' := 123) (Ls' := #[vI x0, vI x1, vI x2, vI x3, vI qa0, vI ea0, vI qa1, vI ea1, vI qa2, vI ea2, vR r5, vR r14, vR r23, vR r32, vR r39, vR r46, vR a49, vR a51, vI (Int32.ofNat ([] ++ ds357).length), .unset, .unset, .unset, .unset, .unset]) B at_121 ?_
  refine Ow.aload (pc' := 125) B at_123 (Ow.aload (pc' := 127) B at_125 (Ow.iload (pc' := 129) B at_127 (Ow.iload (pc' := 131) B at_129 (Ow.iload (pc' := 133) B at_131 (Ow.iloadN (pc' := 134) B at_133 (Ow.aload (pc' := 136) B at_134 (Ow.aload (pc' := 138) B at_136 ?_)))))))
  have f366 := f60.keep Kh352
  have f367 := f17.keep Kh21 Ow.nin0 Ow.nin0
  have f368 := f367.keep Kh30 Ow.nin0 Ow.nin0
  have f369 := f368.keep Kh37 Ow.nin0 Ow.nin0
  have f370 := f369.keep Kh44 Ow.nin0 Ow.nin0
  have f371 := f370.keep Kh50 Ow.nin0 Ow.nin0
  have f372 := f371.keep Kh52 Ow.nin0 Ow.nin0
  have f373 := f372.keep Kh58 (Ow.ninS (by omega) Ow.nin0) (Ow.ninS (by omega) Ow.nin0)
  have f374 := f373.keep Kh352 (Ow.ninS (by omega) (Ow.ninS (by omega) Ow.nin0)) (Ow.ninS (by omega) (Ow.ninS (by omega) Ow.nin0))
  have f375 := f41.keep Kh44 Ow.nin0
  have f376 := f375.keep Kh50 Ow.nin0
  have f377 := f376.keep Kh52 Ow.nin0
  have f378 := f377.keep Kh58 (Ow.ninS (by omega) Ow.nin0)
  have f379 := f378.keep Kh352 (Ow.ninS (by omega) (Ow.ninS (by omega) Ow.nin0))
  refine Ow.Go.old (fun o380 => ?_)
  refine Ow.callStatic (pc' := 141) (W := 0) (k' := 29) (n' := 290) (argsL := [(.ref a51), (.ref a49), (.int (Int32.ofNat ([] ++ ds357).length)), (.int qa1), (.int ea1), (.int x2), (.ref r14), (.ref r39)]) (rest := []) B at_138 (w43 hw) (w44 hw) (w2 hw) (w45 hw) (gStC hw G GS GI (kd := qa1) o380 f366 (by omega) f363 f364 f365 (by omega) (by omega) (by omega) (by first|omega|(simp;omega)|simp) f359 (by omega) (by omega) (by first|omega|(simp;omega)|simp) f374 hss18 (by omega) (by omega) f379 (by omega) (by omega) (by omega) (by omega)) pd46 ?_
  intro vq381 h382 S383 q381 zh382
  obtain ⟨b384, t385, k386, ds387, f388, f389, rfl, Kh382, f390, f391, f392, f393, f394, f395, rfl⟩ := q381
  have lb384 : (b384 : Nat) < h382.size := f395.lt
  have lt385 : (t385 : Nat) < h382.size := f395.ltt
  refine Ow.Go.norm (S' := [t385, t355, a51, a49]) (st' := [(.int (Int32.ofNat (([] ++ ds357) ++ ds387).length))]) (fun _ q => q) rfl ?_
  refine Ow.istore (pc' := 143) (Ls' := #[vI x0, vI x1, vI x2, vI x3, vI qa0, vI ea0, vI qa1, vI ea1, vI qa2, vI ea2, vR r5, vR r14, vR r23, vR r32, vR r39, vR r46, vR a49, vR a51, vI (Int32.ofNat (([] ++ ds357) ++ ds387).length), .unset, .unset, .unset, .unset, .unset]) B at_141 ?_
  refine Ow.aload (pc' := 145) B at_143 (Ow.aload (pc' := 147) B at_145 (Ow.iload (pc' := 149) B at_147 (Ow.iload (pc' := 151) B at_149 (Ow.iload (pc' := 153) B at_151 (Ow.iloadN (pc' := 154) B at_153 (Ow.aload (pc' := 156) B at_154 (Ow.aload (pc' := 158) B at_156 ?_)))))))
  have f396 := f366.keep Kh382
  have f397 := f26.keep Kh30 Ow.nin0 Ow.nin0
  have f398 := f397.keep Kh37 Ow.nin0 Ow.nin0
  have f399 := f398.keep Kh44 Ow.nin0 Ow.nin0
  have f400 := f399.keep Kh50 Ow.nin0 Ow.nin0
  have f401 := f400.keep Kh52 Ow.nin0 Ow.nin0
  have f402 := f401.keep Kh58 (Ow.ninS (by omega) Ow.nin0) (Ow.ninS (by omega) Ow.nin0)
  have f403 := f402.keep Kh352 (Ow.ninS (by omega) (Ow.ninS (by omega) Ow.nin0)) (Ow.ninS (by omega) (Ow.ninS (by omega) Ow.nin0))
  have f404 := f403.keep Kh382 (Ow.ninS (by omega) (Ow.ninS (by omega) (Ow.ninS (by omega) (Ow.ninS (by omega) Ow.nin0)))) (Ow.ninS (by omega) (Ow.ninS (by omega) (Ow.ninS (by omega) (Ow.ninS (by omega) Ow.nin0))))
  have f405 := f48.keep Kh50 Ow.nin0
  have f406 := f405.keep Kh52 Ow.nin0
  have f407 := f406.keep Kh58 (Ow.ninS (by omega) Ow.nin0)
  have f408 := f407.keep Kh352 (Ow.ninS (by omega) (Ow.ninS (by omega) Ow.nin0))
  have f409 := f408.keep Kh382 (Ow.ninS (by omega) (Ow.ninS (by omega) (Ow.ninS (by omega) (Ow.ninS (by omega) Ow.nin0))))
  refine Ow.Go.old (fun o410 => ?_)
  refine Ow.callStatic (pc' := 161) (W := 0) (k' := 32) (n' := 350) (argsL := [(.ref a51), (.ref a49), (.int (Int32.ofNat (([] ++ ds357) ++ ds387).length)), (.int qa2), (.int ea2), (.int x3), (.ref r23), (.ref r46)]) (rest := []) B at_158 (w43 hw) (w44 hw) (w2 hw) (w45 hw) (gStC hw G GS GI (kd := qa2) o410 f396 (by omega) f393 f394 f395 (by omega) (by omega) (by omega) (by first|omega|(simp;omega)|simp) f389 (by omega) (by omega) (by first|omega|(simp;omega)|simp) f404 hss27 (by omega) (by omega) f409 (by omega) (by omega) (by omega) (by omega)) pd46 ?_
  intro vq411 h412 S413 q411 zh412
  obtain ⟨b414, t415, k416, ds417, f418, f419, rfl, Kh412, f420, f421, f422, f423, f424, f425, rfl⟩ := q411
  have lb414 : (b414 : Nat) < h412.size := f425.lt
  have lt415 : (t415 : Nat) < h412.size := f425.ltt
  refine Ow.Go.norm (S' := [t415, t385, t355, a51, a49]) (st' := [(.int (Int32.ofNat ((([] ++ ds357) ++ ds387) ++ ds417).length))]) (fun _ q => q) rfl ?_
  refine Ow.istore (pc' := 163) (Ls' := #[vI x0, vI x1, vI x2, vI x3, vI qa0, vI ea0, vI qa1, vI ea1, vI qa2, vI ea2, vR r5, vR r14, vR r23, vR r32, vR r39, vR r46, vR a49, vR a51, vI (Int32.ofNat ((([] ++ ds357) ++ ds387) ++ ds417).length), .unset, .unset, .unset, .unset, .unset]) B at_161 ?_
  have f426 := f396.keep Kh412
  refine Ow.Go.old (fun o427 => ?_)
  exact Ow.Go.mono (k' := 52) (n' := 2400) (by decide) (by decide) (by simp) (segC hw G GS GI B o427 f426 (by omega) f423 f424 f425 (by omega) (by omega) (by omega) (by first|omega|(simp;omega)|simp) f419 (by first|omega|(simp;omega)|simp) (fun _ _ => k13n2 hK0) (fun q _ => absurd q (k13n0 hK0)) (fun q _ => absurd q (k13n0 hK0)))
 ·refine Ow.aload (pc' := 105) B at_103 (Ow.aload (pc' := 107) B at_105 (Ow.iload (pc' := 109) B at_107 (Ow.iload (pc' := 111) B at_109 (Ow.iload (pc' := 113) B at_111 (Ow.iloadN (pc' := 114) B at_113 (Ow.aload (pc' := 116) B at_114 (Ow.aload (pc' := 118) B at_116 ?_)))))))
  have f428 := f8.keep Kh12 Ow.nin0 Ow.nin0
  have f429 := f428.keep Kh21 Ow.nin0 Ow.nin0
  have f430 := f429.keep Kh30 Ow.nin0 Ow.nin0
  have f431 := f430.keep Kh37 Ow.nin0 Ow.nin0
  have f432 := f431.keep Kh44 Ow.nin0 Ow.nin0
  have f433 := f432.keep Kh50 Ow.nin0 Ow.nin0
  have f434 := f433.keep Kh52 Ow.nin0 Ow.nin0
  have f435 := f434.keep Kh58 (Ow.ninS (by omega) Ow.nin0) (Ow.ninS (by omega) Ow.nin0)
  have f436 := f34.keep Kh37 Ow.nin0
  have f437 := f436.keep Kh44 Ow.nin0
  have f438 := f437.keep Kh50 Ow.nin0
  have f439 := f438.keep Kh52 Ow.nin0
  have f440 := f439.keep Kh58 (Ow.ninS (by omega) Ow.nin0)
  refine Ow.Go.old (fun o441 => ?_)
  refine Ow.callStatic (pc' := 121) (W := 0) (k' := 26) (n' := 238) (argsL := [(.ref a51), (.ref a49), (.int 0), (.int 2), (.int ea0), (.int x1), (.ref r5), (.ref r32)]) (rest := []) B at_118 (w43 hw) (w44 hw) (w2 hw) (w45 hw) (gStA2 hw G GS GI o441 f60 (by omega) f61 f62 f66 (by omega) (by omega) (by first|omega|(simp;omega)|simp) f435 hss9 (by omega) (by omega) f440 (by omega) (by omega) (by omega) (by omega)) pd46 ?_
  intro vq442 h443 S444 q442 zh443
  obtain ⟨f445, rfl, Kh443, f446, f447, rfl⟩ := q442
  refine Ow.Go.nr (S' := [a51, a49]) (st' := [(.int (Int32.ofNat ss9.length))]) ?_
  refine Ow.istore (pc' := 123) (Ls' := #[vI x0, vI x1, vI x2, vI x3, vI 2, vI ea0, vI qa1, vI ea1, vI qa2, vI ea2, vR r5, vR r14, vR r23, vR r32, vR r39, vR r46, vR a49, vR a51, vI (Int32.ofNat ss9.length), .unset, .unset, .unset, .unset, .unset]) B at_121 ?_
  rcases kB hk1 with rfl | hK1
  ·refine Ow.aload (pc' := 125) B at_123 (Ow.aload (pc' := 127) B at_125 (Ow.iload (pc' := 129) B at_127 (Ow.iload (pc' := 131) B at_129 (Ow.iload (pc' := 133) B at_131 (Ow.iloadN (pc' := 134) B at_133 (Ow.aload (pc' := 136) B at_134 (Ow.aload (pc' := 138) B at_136 ?_)))))))
   refine Ow.Go.old (fun o448 => ?_)
   refine Ow.callStatic (pc' := 141) (W := 0) (k' := 26) (n' := 238) (argsL := [(.ref a51), (.ref a49), (.int (Int32.ofNat ss9.length)), (.int 0), (.int ea1), (.int x2), (.ref r14), (.ref r39)]) (rest := []) B at_138 (w43 hw) (w44 hw) (w2 hw) (w45 hw) (gSt0 hw G GS GI o448) pd46 ?_
   intro vq449 h450 S451 q449 zh450
   obtain ⟨rfl, rfl, rfl⟩ := q449
   refine Ow.Go.nr (S' := [a51, a49]) (st' := [(.int (Int32.ofNat ss9.length))]) ?_
   refine Ow.istore (pc' := 143) (Ls' := #[vI x0, vI x1, vI x2, vI x3, vI 2, vI ea0, vI 0, vI ea1, vI qa2, vI ea2, vR r5, vR r14, vR r23, vR r32, vR r39, vR r46, vR a49, vR a51, vI (Int32.ofNat ss9.length), .unset, .unset, .unset, .unset, .unset]) B at_141 ?_
   rcases kB hk2 with rfl | hK2
   ·refine Ow.aload (pc' := 145) B at_143 (Ow.aload (pc' := 147) B at_145 (Ow.iload (pc' := 149) B at_147 (Ow.iload (pc' := 151) B at_149 (Ow.iload (pc' := 153) B at_151 (Ow.iloadN (pc' := 154) B at_153 (Ow.aload (pc' := 156) B at_154 (Ow.aload (pc' := 158) B at_156 ?_)))))))
    refine Ow.Go.old (fun o452 => ?_)
    refine Ow.callStatic (pc' := 161) (W := 0) (k' := 26) (n' := 238) (argsL := [(.ref a51), (.ref a49), (.int (Int32.ofNat ss9.length)), (.int 0), (.int ea2), (.int x3), (.ref r23), (.ref r46)]) (rest := []) B at_158 (w43 hw) (w44 hw) (w2 hw) (w45 hw) (gSt0 hw G GS GI o452) pd46 ?_
    intro vq453 h454 S455 q453 zh454
    obtain ⟨rfl, rfl, rfl⟩ := q453
    refine Ow.Go.nr (S' := [a51, a49]) (st' := [(.int (Int32.ofNat ss9.length))]) ?_
    refine Ow.istore (pc' := 163) (Ls' := #[vI x0, vI x1, vI x2, vI x3, vI 2, vI ea0, vI 0, vI ea1, vI 0, vI ea2, vR r5, vR r14, vR r23, vR r32, vR r39, vR r46, vR a49, vR a51, vI (Int32.ofNat ss9.length), .unset, .unset, .unset, .unset, .unset]) B at_161 ?_
    refine Ow.aload (pc' := 165) B at_163 ?_
    refine Ow.Go.old (fun o456 => ?_)
    have f457 := f60.keep Kh443
    have f458 := f435.keep Kh443 (Ow.ninS (by omega) (Ow.ninS (by omega) Ow.nin0)) (Ow.ninS (by omega) (Ow.ninS (by omega) Ow.nin0))
    refine Ow.callVirtual (pc' := 168) (W := 0) (k' := 26) (n' := 238) (argsL := []) (rest := []) (K := "com/example/ply3/ply3/TextWriter") B at_165 (w46 hw) (w47 hw) (w49 hw) (w49 hw) (w48 hw) (w31 hw) (w50 hw) f457 (gTsB hw G GS GI o456 f457 (by omega) f446 f447 f458 (by omega) (by omega) (by first|omega|(simp;omega)|simp)) pd42 ?_
    intro vq459 h460 S461 q459 zh460
    obtain ⟨rfl, rfl, rfl⟩ := q459
    refine Ow.Go.nr (S' := [a51, a49]) (st' := [(.ref r5)]) ?_
    refine Ow.astore (pc' := 170) (Ls' := #[vI x0, vI x1, vI x2, vI x3, vI 2, vI ea0, vI 0, vI ea1, vI 0, vI ea2, vR r5, vR r14, vR r23, vR r32, vR r39, vR r46, vR a49, vR a51, vI (Int32.ofNat ss9.length), vR r5, .unset, .unset, .unset, .unset]) B at_168 ?_
    refine Ow.aload (pc' := 172) B at_170 ?_
    refine Ow.Go.old (fun o462 => ?_)
    refine Ow.callVirtual (pc' := 175) (W := 0) (k' := 26) (n' := 238) (argsL := []) (rest := []) (K := "java/lang/String") B at_172 (w56 hw) (w57 hw) (w59 hw) (w59 hw) (w58 hw) (w6 hw) (w60 hw) (f458).1 (gLen hw G GS GI o462 f458 (by first|omega|(simp;omega)|simp)) pd28 ?_
    intro vq463 h464 S465 q463 zh464
    obtain ⟨rfl, rfl, rfl⟩ := q463
    refine Ow.Go.nr (S' := [a51, a49]) (st' := [(.int (Int32.ofNat ss9.length))]) ?_
    refine Ow.iload (pc' := 177) B at_175 ?_
    refine Ow.icmpF (pc' := 180) B at_177 (teq (rfl)).2 ?_
    refine Ow.aload (pc' := 182) B at_180 (Ow.aload (pc' := 184) B at_182 (Ow.iload (pc' := 186) B at_184 (Ow.iconst (pc' := 187) (x := 0) B at_186 ?_)))
    refine Ow.Go.old (fun o466 => ?_)
    refine Ow.callStatic (pc' := 190) (W := 0) (k' := 26) (n' := 238) (argsL := [(.ref r5), (.ref a49), (.int (Int32.ofNat ss9.length)), (.int 0)]) (rest := []) B at_187 (w67 hw) (w68 hw) (w2 hw) (w69 hw) (gAt hw G GS GI (i := 0) o466 f458 f445 (by first|omega|(simp;omega)|simp) (by omega)) pd47 ?_
    intro vq467 h468 S469 q467 zh468
    obtain ⟨rfl, rfl, rfl⟩ := q467
    refine Ow.Go.nr (S' := [a51, a49]) (st' := [(.int 1)]) ?_
    refine Ow.ifF (pc' := 193) B at_190 (by decide) ?_
    refine Ow.aload (pc' := 195) B at_193 (Ow.aload (pc' := 197) B at_195 (Ow.iload (pc' := 199) B at_197 (Ow.iconst (pc' := 200) (x := 1) B at_199 ?_)))
    refine Ow.Go.old (fun o470 => ?_)
    refine Ow.callStatic (pc' := 203) (W := 0) (k' := 26) (n' := 238) (argsL := [(.ref r5), (.ref a49), (.int (Int32.ofNat ss9.length)), (.int 1)]) (rest := []) B at_200 (w67 hw) (w68 hw) (w2 hw) (w69 hw) (gAt hw G GS GI (i := 1) o470 f458 f445 (by first|omega|(simp;omega)|simp) (by omega)) pd47 ?_
    intro vq471 h472 S473 q471 zh472
    obtain ⟨rfl, rfl, rfl⟩ := q471
    refine Ow.Go.nr (S' := [a51, a49]) (st' := [(.int 1)]) ?_
    refine Ow.ifF (pc' := 206) B at_203 (by decide) ?_
    refine Ow.aload (pc' := 208) B at_206 (Ow.aload (pc' := 210) B at_208 (Ow.iload (pc' := 212) B at_210 (Ow.iconst (pc' := 213) (x := 2) B at_212 ?_)))
    refine Ow.Go.old (fun o474 => ?_)
    refine Ow.callStatic (pc' := 216) (W := 0) (k' := 26) (n' := 238) (argsL := [(.ref r5), (.ref a49), (.int (Int32.ofNat ss9.length)), (.int 2)]) (rest := []) B at_213 (w67 hw) (w68 hw) (w2 hw) (w69 hw) (gAt hw G GS GI (i := 2) o474 f458 f445 (by first|omega|(simp;omega)|simp) (by omega)) pd47 ?_
    intro vq475 h476 S477 q475 zh476
    obtain ⟨rfl, rfl, rfl⟩ := q475
    refine Ow.Go.nr (S' := [a51, a49]) (st' := [(.int 1)]) ?_
    refine Ow.ifF (pc' := 219) B at_216 (by decide) ?_
    refine Ow.aload (pc' := 221) B at_219 (Ow.aload (pc' := 223) B at_221 (Ow.iload (pc' := 225) B at_223 (Ow.iconst (pc' := 226) (x := 3) B at_225 ?_)))
    refine Ow.Go.old (fun o478 => ?_)
    refine Ow.callStatic (pc' := 229) (W := 0) (k' := 26) (n' := 238) (argsL := [(.ref r5), (.ref a49), (.int (Int32.ofNat ss9.length)), (.int 3)]) (rest := []) B at_226 (w67 hw) (w68 hw) (w2 hw) (w69 hw) (gAt hw G GS GI (i := 3) o478 f458 f445 (by first|omega|(simp;omega)|simp) (by omega)) pd47 ?_
    intro vq479 h480 S481 q479 zh480
    obtain ⟨rfl, rfl, rfl⟩ := q479
    refine Ow.Go.nr (S' := [a51, a49]) (st' := [(.int 1)]) ?_
    refine Ow.ifF (pc' := 232) B at_229 (by decide) ?_
    refine Ow.aload (pc' := 234) B at_232 (Ow.aload (pc' := 236) B at_234 (Ow.iload (pc' := 238) B at_236 (Ow.iconst (pc' := 239) (x := 4) B at_238 ?_)))
    refine Ow.Go.old (fun o482 => ?_)
    refine Ow.callStatic (pc' := 242) (W := 0) (k' := 26) (n' := 238) (argsL := [(.ref r5), (.ref a49), (.int (Int32.ofNat ss9.length)), (.int 4)]) (rest := []) B at_239 (w67 hw) (w68 hw) (w2 hw) (w69 hw) (gAt hw G GS GI (i := 4) o482 f458 f445 (by first|omega|(simp;omega)|simp) (by omega)) pd47 ?_
    intro vq483 h484 S485 q483 zh484
    obtain ⟨rfl, rfl, rfl⟩ := q483
    refine Ow.Go.nr (S' := [a51, a49]) (st' := [(.int 1)]) ?_
    refine Ow.ifF (pc' := 245) B at_242 (by decide) ?_
    refine Ow.aload (pc' := 247) B at_245 (Ow.aload (pc' := 249) B at_247 (Ow.iload (pc' := 251) B at_249 (Ow.iconst (pc' := 252) (x := 5) B at_251 ?_)))
    refine Ow.Go.old (fun o486 => ?_)
    refine Ow.callStatic (pc' := 255) (W := 0) (k' := 26) (n' := 238) (argsL := [(.ref r5), (.ref a49), (.int (Int32.ofNat ss9.length)), (.int 5)]) (rest := []) B at_252 (w67 hw) (w68 hw) (w2 hw) (w69 hw) (gAt hw G GS GI (i := 5) o486 f458 f445 (by first|omega|(simp;omega)|simp) (by omega)) pd47 ?_
    intro vq487 h488 S489 q487 zh488
    obtain ⟨rfl, rfl, rfl⟩ := q487
    refine Ow.Go.nr (S' := [a51, a49]) (st' := [(.int 1)]) ?_
    refine Ow.ifF (pc' := 258) B at_255 (by decide) ?_
    refine Ow.iconst (pc' := 259) (x := 1) B at_258 ?_
    refine Ow.goto (pc' := 263) B at_259 ?_
    refine Ow.istore (pc' := 265) (Ls' := #[vI x0, vI x1, vI x2, vI x3, vI 2, vI ea0, vI 0, vI ea1, vI 0, vI ea2, vR r5, vR r14, vR r23, vR r32, vR r39, vR r46, vR a49, vR a51, vI (Int32.ofNat ss9.length), vR r5, vI 1, .unset, .unset, .unset]) B at_263 ?_
    refine Ow.iload (pc' := 267) B at_265 ?_
    refine Ow.ifF (pc' := 270) B at_267 (by decide) ?_
    refine Ow.iconst (pc' := 271) (x := 1) B at_270 ?_
    refine Ow.goto (pc' := 275) B at_271 ?_
    refine Ow.iload (pc' := 277) B at_275 ?_
    refine Ow.ifT (pc' := 284) B at_277 (by decide) ?_
    refine Ow.iconst (pc' := 285) (x := 0) B at_284 ?_
    refine Ow.iadd (pc' := 286) (z := 1) B at_285 ?_
    refine Ow.iload (pc' := 288) B at_286 ?_
    refine Ow.ifT (pc' := 295) B at_288 (by decide) ?_
    refine Ow.iconst (pc' := 296) (x := 0) B at_295 ?_
    refine Ow.iadd (pc' := 297) (z := 1) B at_296 ?_
    refine Ow.istore (pc' := 299) (Ls' := #[vI x0, vI x1, vI x2, vI x3, vI 2, vI ea0, vI 0, vI ea1, vI 0, vI ea2, vR r5, vR r14, vR r23, vR r32, vR r39, vR r46, vR a49, vR a51, vI (Int32.ofNat ss9.length), vR r5, vI 1, vI 1, .unset, .unset]) B at_297 ?_
    refine Ow.iload (pc' := 301) B at_299 (Ow.iconst (pc' := 302) (x := 1) B at_301 ?_)
    refine Ow.icmpF (pc' := 305) B at_302 (by decide) ?_
    refine Ow.iload (pc' := 307) B at_305 ?_
    refine Ow.ifF (pc' := 310) B at_307 (by decide) ?_
    refine Ow.iload (pc' := 312) B at_310 ?_
    refine Ow.goto (pc' := 327) B at_312 ?_
    refine Ow.istore (pc' := 329) (Ls' := #[vI x0, vI x1, vI x2, vI x3, vI 2, vI ea0, vI 0, vI ea1, vI 0, vI ea2, vR r5, vR r14, vR r23, vR r32, vR r39, vR r46, vR a49, vR a51, vI (Int32.ofNat ss9.length), vR r5, vI 1, vI 1, vI 2, .unset]) B at_327 ?_
    refine Ow.iload (pc' := 331) B at_329 ?_
    refine Ow.ifF (pc' := 334) B at_331 (by decide) ?_
    refine Ow.aload (pc' := 336) B at_334 ?_
    refine Ow.goto (pc' := 351) B at_336 ?_
    refine Ow.astore (pc' := 353) (Ls' := #[vI x0, vI x1, vI x2, vI x3, vI 2, vI ea0, vI 0, vI ea1, vI 0, vI ea2, vR r5, vR r14, vR r23, vR r32, vR r39, vR r46, vR a49, vR a51, vI (Int32.ofNat ss9.length), vR r5, vI 1, vI 1, vI 2, vR r5]) B at_351 ?_
    refine Ow.iload (pc' := 355) B at_353 (Ow.iconst (pc' := 356) (x := 2) B at_355 ?_)
    refine Ow.icmpF (pc' := 359) B at_356 (by decide) ?_
    refine Ow.iload (pc' := 361) B at_359 ?_
    refine Ow.ifF (pc' := 364) B at_361 (by decide) ?_
    refine Ow.aload (pc' := 366) B at_364 (Ow.aload (pc' := 368) B at_366 ?_)
    refine Ow.acmpR (pc' := 371) (same := true) B at_368 (decide_eq_true rfl) ?_
    refine Ow.iconst (pc' := 372) (x := 1) B at_371 ?_
    refine Ow.goto (pc' := 376) B at_372 ?_
    refine Ow.istore (pc' := 378) (Ls' := #[vI x0, vI x1, vI x2, vI x3, vI 2, vI ea0, vI 0, vI ea1, vI 0, vI ea2, vR r5, vR r14, vR r23, vR r32, vR r39, vR r46, vR a49, vR a51, vI (Int32.ofNat ss9.length), vR r5, vI 1, vI 1, vI 2, vR r5]) B at_376 ?_
    refine Ow.iload (pc' := 380) B at_378 ?_
    exact Ow.retI (S' := []) (t := .boolean) B at_380 (rfl)
   ·refine Ow.aload (pc' := 145) B at_143 (Ow.aload (pc' := 147) B at_145 (Ow.iload (pc' := 149) B at_147 (Ow.iload (pc' := 151) B at_149 (Ow.iload (pc' := 153) B at_151 (Ow.iloadN (pc' := 154) B at_153 (Ow.aload (pc' := 156) B at_154 (Ow.aload (pc' := 158) B at_156 ?_)))))))
    have f490 := f60.keep Kh443
    have f491 := f435.keep Kh443 (Ow.ninS (by omega) (Ow.ninS (by omega) Ow.nin0)) (Ow.ninS (by omega) (Ow.ninS (by omega) Ow.nin0))
    have f492 := f26.keep Kh30 Ow.nin0 Ow.nin0
    have f493 := f492.keep Kh37 Ow.nin0 Ow.nin0
    have f494 := f493.keep Kh44 Ow.nin0 Ow.nin0
    have f495 := f494.keep Kh50 Ow.nin0 Ow.nin0
    have f496 := f495.keep Kh52 Ow.nin0 Ow.nin0
    have f497 := f496.keep Kh58 (Ow.ninS (by omega) Ow.nin0) (Ow.ninS (by omega) Ow.nin0)
    have f498 := f497.keep Kh443 (Ow.ninS (by omega) (Ow.ninS (by omega) Ow.nin0)) (Ow.ninS (by omega) (Ow.ninS (by omega) Ow.nin0))
    have f499 := f48.keep Kh50 Ow.nin0
    have f500 := f499.keep Kh52 Ow.nin0
    have f501 := f500.keep Kh58 (Ow.ninS (by omega) Ow.nin0)
    have f502 := f501.keep Kh443 (Ow.ninS (by omega) (Ow.ninS (by omega) Ow.nin0))
    refine Ow.Go.old (fun o503 => ?_)
    refine Ow.callStatic (pc' := 161) (W := 0) (k' := 32) (n' := 350) (argsL := [(.ref a51), (.ref a49), (.int (Int32.ofNat ss9.length)), (.int qa2), (.int ea2), (.int x3), (.ref r23), (.ref r46)]) (rest := []) B at_158 (w43 hw) (w44 hw) (w2 hw) (w45 hw) (gStB hw G GS GI (kd := qa2) o503 f490 (by omega) f446 f447 f491 (by omega) (by omega) (by first|omega|(simp;omega)|simp) f445 (by omega) (by omega) (by first|omega|(simp;omega)|simp) f498 hss27 (by omega) (by omega) f502 (by omega) (by omega) (by omega) (by omega) hK2) pd46 ?_
    intro vq504 h505 S506 q504 zh505
    obtain ⟨b507, t508, k509, ds510, f511, f512, rfl, Kh505, f513, f514, f515, f516, f517, f518, rfl⟩ := q504
    have lb507 : (b507 : Nat) < h505.size := f518.lt
    have lt508 : (t508 : Nat) < h505.size := f518.ltt
    refine Ow.Go.norm (S' := [t508, a51, a49]) (st' := [(.int (Int32.ofNat (ss9 ++ ds510).length))]) (fun _ q => q) rfl ?_
    refine Ow.istore (pc' := 163) (Ls' := #[vI x0, vI x1, vI x2, vI x3, vI 2, vI ea0, vI 0, vI ea1, vI qa2, vI ea2, vR r5, vR r14, vR r23, vR r32, vR r39, vR r46, vR a49, vR a51, vI (Int32.ofNat (ss9 ++ ds510).length), .unset, .unset, .unset, .unset, .unset]) B at_161 ?_
    have f519 := f490.keep Kh505
    refine Ow.Go.old (fun o520 => ?_)
    exact Ow.Go.mono (k' := 52) (n' := 2400) (by decide) (by decide) (by simp) (segC hw G GS GI B o520 f519 (by omega) f516 f517 f518 (by omega) (by omega) (by omega) (by first|omega|(simp;omega)|simp) f512 (by first|omega|(simp;omega)|simp) (fun _ q => absurd q (k123n0 hK2)) (fun _ _ => by decide) (fun q _ => absurd q (by decide)))
  ·refine Ow.aload (pc' := 125) B at_123 (Ow.aload (pc' := 127) B at_125 (Ow.iload (pc' := 129) B at_127 (Ow.iload (pc' := 131) B at_129 (Ow.iload (pc' := 133) B at_131 (Ow.iloadN (pc' := 134) B at_133 (Ow.aload (pc' := 136) B at_134 (Ow.aload (pc' := 138) B at_136 ?_)))))))
   have f521 := f60.keep Kh443
   have f522 := f435.keep Kh443 (Ow.ninS (by omega) (Ow.ninS (by omega) Ow.nin0)) (Ow.ninS (by omega) (Ow.ninS (by omega) Ow.nin0))
   have f523 := f17.keep Kh21 Ow.nin0 Ow.nin0
   have f524 := f523.keep Kh30 Ow.nin0 Ow.nin0
   have f525 := f524.keep Kh37 Ow.nin0 Ow.nin0
   have f526 := f525.keep Kh44 Ow.nin0 Ow.nin0
   have f527 := f526.keep Kh50 Ow.nin0 Ow.nin0
   have f528 := f527.keep Kh52 Ow.nin0 Ow.nin0
   have f529 := f528.keep Kh58 (Ow.ninS (by omega) Ow.nin0) (Ow.ninS (by omega) Ow.nin0)
   have f530 := f529.keep Kh443 (Ow.ninS (by omega) (Ow.ninS (by omega) Ow.nin0)) (Ow.ninS (by omega) (Ow.ninS (by omega) Ow.nin0))
   have f531 := f41.keep Kh44 Ow.nin0
   have f532 := f531.keep Kh50 Ow.nin0
   have f533 := f532.keep Kh52 Ow.nin0
   have f534 := f533.keep Kh58 (Ow.ninS (by omega) Ow.nin0)
   have f535 := f534.keep Kh443 (Ow.ninS (by omega) (Ow.ninS (by omega) Ow.nin0))
   refine Ow.Go.old (fun o536 => ?_)
   refine Ow.callStatic (pc' := 141) (W := 0) (k' := 32) (n' := 350) (argsL := [(.ref a51), (.ref a49), (.int (Int32.ofNat ss9.length)), (.int qa1), (.int ea1), (.int x2), (.ref r14), (.ref r39)]) (rest := []) B at_138 (w43 hw) (w44 hw) (w2 hw) (w45 hw) (gStB hw G GS GI (kd := qa1) o536 f521 (by omega) f446 f447 f522 (by omega) (by omega) (by first|omega|(simp;omega)|simp) f445 (by omega) (by omega) (by first|omega|(simp;omega)|simp) f530 hss18 (by omega) (by omega) f535 (by omega) (by omega) (by omega) (by omega) hK1) pd46 ?_
   intro vq537 h538 S539 q537 zh538
   obtain ⟨b540, t541, k542, ds543, f544, f545, rfl, Kh538, f546, f547, f548, f549, f550, f551, rfl⟩ := q537
   have lb540 : (b540 : Nat) < h538.size := f551.lt
   have lt541 : (t541 : Nat) < h538.size := f551.ltt
   refine Ow.Go.norm (S' := [t541, a51, a49]) (st' := [(.int (Int32.ofNat (ss9 ++ ds543).length))]) (fun _ q => q) rfl ?_
   refine Ow.istore (pc' := 143) (Ls' := #[vI x0, vI x1, vI x2, vI x3, vI 2, vI ea0, vI qa1, vI ea1, vI qa2, vI ea2, vR r5, vR r14, vR r23, vR r32, vR r39, vR r46, vR a49, vR a51, vI (Int32.ofNat (ss9 ++ ds543).length), .unset, .unset, .unset, .unset, .unset]) B at_141 ?_
   refine Ow.aload (pc' := 145) B at_143 (Ow.aload (pc' := 147) B at_145 (Ow.iload (pc' := 149) B at_147 (Ow.iload (pc' := 151) B at_149 (Ow.iload (pc' := 153) B at_151 (Ow.iloadN (pc' := 154) B at_153 (Ow.aload (pc' := 156) B at_154 (Ow.aload (pc' := 158) B at_156 ?_)))))))
   have f552 := f521.keep Kh538
   have f553 := f26.keep Kh30 Ow.nin0 Ow.nin0
   have f554 := f553.keep Kh37 Ow.nin0 Ow.nin0
   have f555 := f554.keep Kh44 Ow.nin0 Ow.nin0
   have f556 := f555.keep Kh50 Ow.nin0 Ow.nin0
   have f557 := f556.keep Kh52 Ow.nin0 Ow.nin0
   have f558 := f557.keep Kh58 (Ow.ninS (by omega) Ow.nin0) (Ow.ninS (by omega) Ow.nin0)
   have f559 := f558.keep Kh443 (Ow.ninS (by omega) (Ow.ninS (by omega) Ow.nin0)) (Ow.ninS (by omega) (Ow.ninS (by omega) Ow.nin0))
   have f560 := f559.keep Kh538 (Ow.ninS (by omega) (Ow.ninS (by omega) Ow.nin0)) (Ow.ninS (by omega) (Ow.ninS (by omega) Ow.nin0))
   have f561 := f48.keep Kh50 Ow.nin0
   have f562 := f561.keep Kh52 Ow.nin0
   have f563 := f562.keep Kh58 (Ow.ninS (by omega) Ow.nin0)
   have f564 := f563.keep Kh443 (Ow.ninS (by omega) (Ow.ninS (by omega) Ow.nin0))
   have f565 := f564.keep Kh538 (Ow.ninS (by omega) (Ow.ninS (by omega) Ow.nin0))
   refine Ow.Go.old (fun o566 => ?_)
   refine Ow.callStatic (pc' := 161) (W := 0) (k' := 35) (n' := 410) (argsL := [(.ref a51), (.ref a49), (.int (Int32.ofNat (ss9 ++ ds543).length)), (.int qa2), (.int ea2), (.int x3), (.ref r23), (.ref r46)]) (rest := []) B at_158 (w43 hw) (w44 hw) (w2 hw) (w45 hw) (gStC hw G GS GI (kd := qa2) o566 f552 (by omega) f549 f550 f551 (by omega) (by omega) (by omega) (by first|omega|(simp;omega)|simp) f545 (by omega) (by omega) (by first|omega|(simp;omega)|simp) f560 hss27 (by omega) (by omega) f565 (by omega) (by omega) (by omega) (by omega)) pd46 ?_
   intro vq567 h568 S569 q567 zh568
   obtain ⟨b570, t571, k572, ds573, f574, f575, rfl, Kh568, f576, f577, f578, f579, f580, f581, rfl⟩ := q567
   have lb570 : (b570 : Nat) < h568.size := f581.lt
   have lt571 : (t571 : Nat) < h568.size := f581.ltt
   refine Ow.Go.norm (S' := [t571, t541, a51, a49]) (st' := [(.int (Int32.ofNat ((ss9 ++ ds543) ++ ds573).length))]) (fun _ q => q) rfl ?_
   refine Ow.istore (pc' := 163) (Ls' := #[vI x0, vI x1, vI x2, vI x3, vI 2, vI ea0, vI qa1, vI ea1, vI qa2, vI ea2, vR r5, vR r14, vR r23, vR r32, vR r39, vR r46, vR a49, vR a51, vI (Int32.ofNat ((ss9 ++ ds543) ++ ds573).length), .unset, .unset, .unset, .unset, .unset]) B at_161 ?_
   have f582 := f552.keep Kh568
   refine Ow.Go.old (fun o583 => ?_)
   exact Ow.Go.mono (k' := 52) (n' := 2400) (by decide) (by decide) (by simp) (segC hw G GS GI B o583 f582 (by omega) f579 f580 f581 (by omega) (by omega) (by omega) (by first|omega|(simp;omega)|simp) f575 (by first|omega|(simp;omega)|simp) (fun q _ => absurd q (k123n0 hK1)) (fun q _ => absurd q (by decide)) (fun q _ => absurd q (by decide)))
set_option maxRecDepth 65536 in
set_option maxHeartbeats 40000000 in
theorem comes_1 {Post : Tables → Env → Array Value → State → Outcome → State → Prop} (hpost : ∀ tb e args s v u, (limb_1_1.after args s (.returned v) u = true ∧ limb_1_2.after args s (.returned v) u = true ∧ True) → ReturnedEndW s (.returned v) u (Jvm.fieldLocs frame_1_writes args s ++ Jvm.arrayLocs frame_1_arrays args s ++ Jvm.staticLocs frame_1_statics s) 64 3392 → Post tb e args s (.returned v) u) :
    ArmFor flags0 classFile x code maxLocals ret World_1 tables_1 room_1 Calls_1 rest_1 Pre_1 Post := by
  intro l hfl _ _ p e ha hc hk s m args below hf hA hF happ hP
  obtain ⟨hcalls, hrest, hpre⟩ := hP
  obtain ⟨-, -, -, hnamed, -, -, -, hat⟩ := (Spec.applies_iff hf).mp happ
  obtain ⟨hg, hn⟩ := and_e (Cond.before_iff.mp (show (Jvm.Cond.and given_1 narrow_1).before args s = true from hpre))
  obtain ⟨g0, hg⟩ := and_e hg
  obtain ⟨w0, w1, w2, w3, rfl⟩ : ∃ w0 w1 w2 w3 : Value, args = #[w0, w1, w2, w3] := by
    have hs : args.size = 4 := by simpa [Cond.value, given_1] using g0
    obtain ⟨L⟩ := args
    match L, hs with
    | [w0, w1, w2, w3], _ => exact ⟨w0, w1, w2, w3, rfl⟩
  have hw := fun d (hd : d ∈ tables_1) => atoms_spec (ws := Jvm.Cond.code x code maxLocals ret :: tables_1) hat d (List.mem_cons_of_mem _ hd)
  have hsets := (atoms_of jdkStatics_1 (by rw [← rest_1_c_eq]; exact hrest)).1
  obtain ⟨g1, hg⟩ := and_e hg
  obtain ⟨i0, e0⟩ := is_v g1
  obtain rfl : w0 = (.int i0) := Option.some.inj e0
  obtain ⟨g2, hg⟩ := and_e hg
  obtain ⟨i1, e1⟩ := is_v g2
  obtain rfl : w1 = (.int i1) := Option.some.inj e1
  obtain ⟨g3, hg⟩ := and_e hg
  obtain ⟨i2, e2⟩ := is_v g3
  obtain rfl : w2 = (.int i2) := Option.some.inj e2
  have g4 := hg
  obtain ⟨i3, e3⟩ := is_v g4
  obtain rfl : w3 = (.int i3) := Option.some.inj e3
  obtain ⟨cz, ecz⟩ := is_v (Cond.before_iff.mp (hsets _ (List.mem_of_getElem? (i := 1) rfl)))
  have hcz : cz ≠ 0 := gotF (Cond.eq_ints ecz (Term.int_eval (0))) (not_v (Cond.before_iff.mp (hsets _ (List.mem_of_getElem? (i := 2) rfl))))
  obtain ⟨sf, esf, rsf⟩ := isR_v (Cond.before_iff.mp (hsets _ (List.mem_of_getElem? (i := 8) rfl)))
  have G : Ow.Glo s cz sf := ⟨Sta.start ecz (Or.inl (hsets _ (List.mem_of_getElem? (i := 0) rfl))), hcz, Sta.start esf (Or.inl (hsets _ (List.mem_of_getElem? (i := 7) rfl))), rsf⟩
  have hCH : CHv s EL1 s.vm s.heap := CHv.start (hEW hw) (fun q hq => hcalls.1 q (by simp only [List.mem_cons, List.not_mem_nil, or_false] at hq; rcases hq with rfl | rfl | rfl <;> simp [consts_1])) (hsets _ (List.mem_of_getElem? (i := 2) rfl)) (w19 hw) (w5 hw)
  have GS : GlS s  := ⟨Sta.start (Ow.eq_int_v (Cond.before_iff.mp (hsets _ (List.mem_of_getElem? (i := 12) rfl)))) (Or.inl (hsets _ (List.mem_of_getElem? (i := 11) rfl))), Sta.start (Ow.eq_int_v (Cond.before_iff.mp (hsets _ (List.mem_of_getElem? (i := 15) rfl)))) (Or.inl (hsets _ (List.mem_of_getElem? (i := 14) rfl))), Sta.start (Ow.eq_int_v (Cond.before_iff.mp (hsets _ (List.mem_of_getElem? (i := 18) rfl)))) (Or.inl (hsets _ (List.mem_of_getElem? (i := 17) rfl)))⟩
  have wlo := (w119 hw)
  obtain ⟨iof, eio, fio⟩ := static_fit (fitS hF) wlo (ty := .object "java/util/function/BiFunction") (by decide)
  have GI : Sta s s.heap "jdk/internal/util/Preconditions" "IOOBE_FORMATTER" "Ljava/util/function/BiFunction;" iof ∧ iof.isRef = true := ⟨Sta.start eio (Or.inr ⟨(w118 hw), wlo⟩), fit_R fio rfl⟩
  obtain ⟨n, o, h1, h2, h3, v, L, S', rfl, ⟨rfl, N, -, -⟩, -, hq⟩ := lawCon hw G GS GI i0 i1 i2 i3 (Old.start s) p e ha hc hk s m _ below hf ((Spec.applies_iff_loose hf).mp happ).1 ⟨rfl, State.Warmed39.refl s, rfl, hCH, Ow.SafeL.nil⟩ trivial
  refine ⟨n, _, h1, h2, h3, hpost _ _ _ _ _ _ ⟨Cond.after_iff.mpr rfl, Cond.after_iff.mpr (eq_i res_at (Term.int_eval (1)) rfl), trivial⟩ ⟨hq.1, hq.2.1, hq.2.2.1, (hq.2.2.2.sift fun y hy => Or.inr (N y hy)).mono (by decide) (by decide)⟩⟩
theorem main_1_1 : Claimed_1_1 := comes_1 fun _ _ _ _ _ _ h hF => ⟨h.1, hF⟩
theorem main_1_2 : Claimed_1_2 := comes_1 fun _ _ _ _ _ _ h hF => ⟨h.2.1, hF⟩
end Jvm.Pilot.@@N@@
namespace Jvm.Pilot.@@N@@
open Jvm Jvm.ClassFile Sem Op Lib Jvm.Free Jvm.Stand Jvm.Pilot.@@N@@.Jvm.D
/-! MADE BY PROGRAM (witnessworld.py) out of the Statement's table words and the real class files: 31 classes; the members and pool entries that the words name. The judged class is class 1, her method 1. -/
namespace start1
open Jvm.ClassFile
def u (s : String) : CpInfo := .utf8 (stringToUtf16 s)
/-- a pool by its gaps: so many unusable entries, then the entry; so many at the end -/
def gap : Nat → List CpInfo → List CpInfo
  | 0, r => r
  | n + 1, r => .unusable :: gap n r
def poolList (es : List (Nat × CpInfo)) (last : Nat) : List CpInfo := es.foldr (fun e r => gap e.1 (e.2 :: r)) (gap last [])
def pool (es : List (Nat × CpInfo)) (last : Nat) : Array CpInfo := ⟨poolList es last⟩
def fileOf (pool : Array CpInfo) (this : Nat) (attrs : Array Attribute := #[]) (ms : Array MethodInfo := #[]) (fl : Nat := 33) (sup : Nat := 0) (ifs : Array Nat := #[]) (fds : Array FieldInfo := #[]) : ClassFile where
  minorVersion := 0
  majorVersion := 65
  constantPool := pool
  accessFlags := fl
  thisClass := this
  superClass := sup
  interfaces := ifs
  fields := fds
  methods := ms
  attributes := attrs
def plain (name : String) (sup : Option ClassId) : Class where
  name := name
  kind := .ordinary
  loader := none
  accessFlags := 33
  super := sup
  interfaces := #[]
  cf := none
  fields := #[]
  methods := #[]
  instanceTypes := #[]
  staticTypes := #[]
  resolved := #[]
  callSites := []
  init := .initialized
  statics := none
  mirror := none

def pool0 : Array CpInfo := pool [(5, u "<init>"), (0, u "()V"), (1, .class_ 10), (1, u "java/lang/Object")] 113

def k0c0 : Code := { maxStack := 0, maxLocals := 1, code := object_method_1_code, exceptionTable := #[], attributes := #[] }
def k0m0 : Method := { name := "<init>", desc := "()V", sig := { parameters := [], returnType := none }, accessFlags := 1, code := some k0c0 }
/-- java/lang/Object -/
def k0 : Class := { plain "java/lang/Object" none with
  accessFlags := 33
  interfaces := #[]
  cf := some (fileOf pool0 8 #[] #[{ accessFlags := 1, nameIndex := 5, descriptorIndex := 6, attributes := #[] }] 33 0 #[] #[])
  fields := #[]
  methods := #[k0m0]
  instanceTypes := #[]
  staticTypes := #[]
  resolved := Array.replicate 124 none
  statics := none }

def pool1 : Array CpInfo := pool [(2, .class_ 4), (0, .nameAndType 5 6), (0, u "java/lang/Object"), (0, u "<init>"), (0, u "()V"), (0, .methodref 8 9), (0, .class_ 10), (0, .nameAndType 11 12), (0, u "com/example/ply3/ply3/TextWriterToStringPinLaw"), (0, u "str"), (0, u "(II)Ljava/lang/String;"), (0, .methodref 8 14), (0, .nameAndType 15 16), (0, u "pair"), (0, u "(I)[C"), (0, .class_ 18), (0, u "com/example/ply3/ply3/TextWriter"), (0, .methodref 17 3), (0, .methodref 8 21), (0, .nameAndType 22 23), (0, u "step"), (0, u "(Lcom/example/ply3/ply3/TextWriter;[CIIIILjava/lang/String;[C)I"), (0, .methodref 17 25), (0, .nameAndType 26 27), (0, u "toString"), (0, u "()Ljava/lang/String;"), (0, .methodref 29 30), (0, .class_ 31), (0, .nameAndType 32 33), (0, u "java/lang/String"), (0, u "length"), (0, u "()I"), (0, .methodref 8 35), (0, .nameAndType 36 37), (0, u "at"), (0, u "(Ljava/lang/String;[CII)Z"), (0, .methodref 29 39), (0, .nameAndType 5 40), (0, u "([C)V"), (0, .methodref 17 42), (0, .nameAndType 43 44), (0, u "write"), (0, u "(I)V"), (0, .methodref 17 46), (0, .nameAndType 43 47), (0, u "(Ljava/lang/String;)V"), (0, .methodref 17 49), (0, .nameAndType 43 50), (0, u "([CII)V"), (0, .methodref 29 52), (0, .nameAndType 53 54), (0, u "charAt"), (0, u "(I)C"), (2, u "law"), (0, u "(IIII)Z")] 5

def k1m0 : Method := { name := "<init>", desc := "()V", sig := { parameters := [], returnType := none }, accessFlags := 1, code := none }
def k1c1 : Code := { maxStack := 8, maxLocals := 24, code := code, exceptionTable := #[], attributes := #[] }
def k1m1 : Method := { name := "law", desc := "(IIII)Z", sig := { parameters := [.int, .int, .int, .int], returnType := some .boolean }, accessFlags := 9, code := some k1c1 }
def k1c2 : Code := { maxStack := 4, maxLocals := 2, code := method_3_code, exceptionTable := #[], attributes := #[] }
def k1m2 : Method := { name := "pair", desc := "(I)[C", sig := { parameters := [.int], returnType := some (.array .char) }, accessFlags := 10, code := some k1c2 }
def k1c3 : Code := { maxStack := 4, maxLocals := 3, code := method_4_code, exceptionTable := #[], attributes := #[] }
def k1m3 : Method := { name := "str", desc := "(II)Ljava/lang/String;", sig := { parameters := [.int, .int], returnType := some (.object "java/lang/String") }, accessFlags := 10, code := some k1c3 }
def k1c4 : Code := { maxStack := 5, maxLocals := 10, code := method_5_code, exceptionTable := #[], attributes := #[] }
def k1m4 : Method := { name := "step", desc := "(Lcom/example/ply3/ply3/TextWriter;[CIIIILjava/lang/String;[C)I", sig := { parameters := [(.object "com/example/ply3/ply3/TextWriter"), (.array .char), .int, .int, .int, .int, (.object "java/lang/String"), (.array .char)], returnType := some .int }, accessFlags := 10, code := some k1c4 }
def k1c5 : Code := { maxStack := 3, maxLocals := 4, code := method_6_code, exceptionTable := #[], attributes := #[] }
def k1m5 : Method := { name := "at", desc := "(Ljava/lang/String;[CII)Z", sig := { parameters := [(.object "java/lang/String"), (.array .char), .int, .int], returnType := some .boolean }, accessFlags := 10, code := some k1c5 }
/-- com/example/ply3/ply3/TextWriterToStringPinLaw -/
def k1 : Class := { plain "com/example/ply3/ply3/TextWriterToStringPinLaw" (some 0) with
  accessFlags := 49
  interfaces := #[]
  cf := some (fileOf pool1 8 #[] #[{ accessFlags := 1, nameIndex := 5, descriptorIndex := 6, attributes := #[] }, { accessFlags := 9, nameIndex := 57, descriptorIndex := 58, attributes := #[] }, { accessFlags := 10, nameIndex := 15, descriptorIndex := 16, attributes := #[] }, { accessFlags := 10, nameIndex := 11, descriptorIndex := 12, attributes := #[] }, { accessFlags := 10, nameIndex := 22, descriptorIndex := 23, attributes := #[] }, { accessFlags := 10, nameIndex := 36, descriptorIndex := 37, attributes := #[] }] 49 2 #[] #[])
  fields := #[]
  methods := #[k1m0, k1m1, k1m2, k1m3, k1m4, k1m5]
  instanceTypes := #[]
  staticTypes := #[]
  resolved := Array.replicate 64 none
  statics := none }

def pool2 : Array CpInfo := pool [(1, .class_ 2), (0, u "java/io/Serializable"), (0, .class_ 4), (0, u "java/lang/Object")] 2

/-- java/io/Serializable -/
def k2 : Class := { plain "java/io/Serializable" (some 0) with
  accessFlags := 1537
  interfaces := #[]
  cf := some (fileOf pool2 1 #[] #[] 1537 3 #[] #[])
  fields := #[]
  methods := #[]
  instanceTypes := #[]
  staticTypes := #[]
  resolved := Array.replicate 7 none
  statics := none }

def pool3 : Array CpInfo := pool [(1, .class_ 2), (0, u "java/lang/Comparable"), (0, .class_ 4), (0, u "java/lang/Object")] 7

/-- java/lang/Comparable -/
def k3 : Class := { plain "java/lang/Comparable" (some 0) with
  accessFlags := 1537
  interfaces := #[]
  cf := some (fileOf pool3 1 #[] #[] 1537 3 #[] #[])
  fields := #[]
  methods := #[]
  instanceTypes := #[]
  staticTypes := #[]
  resolved := Array.replicate 12 none
  statics := none }

def pool4 : Array CpInfo := pool [(2, .class_ 4), (1, u "java/lang/CharSequence"), (42, .class_ 48), (0, u "java/lang/CharSequence$1CodePointIterator"), (10, .class_ 60), (0, u "java/lang/CharSequence$1CharIterator"), (5, .class_ 67), (0, u "java/lang/Object")] 63

/-- java/lang/CharSequence -/
def k4 : Class := { plain "java/lang/CharSequence" (some 0) with
  accessFlags := 1537
  interfaces := #[]
  cf := some (fileOf pool4 2 #[.nestMembers #[47, 59]] #[] 1537 66 #[] #[])
  fields := #[]
  methods := #[]
  instanceTypes := #[]
  staticTypes := #[]
  resolved := Array.replicate 131 none
  statics := none }

def pool5 : Array CpInfo := pool [(1, .class_ 2), (0, u "java/lang/constant/Constable"), (0, .class_ 4), (0, u "java/lang/Object")] 6

/-- java/lang/constant/Constable -/
def k5 : Class := { plain "java/lang/constant/Constable" (some 0) with
  accessFlags := 1537
  interfaces := #[]
  cf := some (fileOf pool5 1 #[] #[] 1537 3 #[] #[])
  fields := #[]
  methods := #[]
  instanceTypes := #[]
  staticTypes := #[]
  resolved := Array.replicate 11 none
  statics := none }

def pool6 : Array CpInfo := pool [(1, .class_ 2), (0, u "java/lang/constant/ConstantDesc"), (0, .class_ 4), (0, u "java/lang/Object")] 32

/-- java/lang/constant/ConstantDesc -/
def k6 : Class := { plain "java/lang/constant/ConstantDesc" (some 0) with
  accessFlags := 1537
  interfaces := #[]
  cf := some (fileOf pool6 1 #[] #[] 1537 3 #[] #[])
  fields := #[]
  methods := #[]
  instanceTypes := #[]
  staticTypes := #[]
  resolved := Array.replicate 37 none
  statics := none }

def pool7 : Array CpInfo := pool [(1, .methodref 2 3), (0, .class_ 4), (0, .nameAndType 5 6), (0, u "java/lang/Object"), (0, u "<init>"), (0, u "()V"), (0, .string 8), (0, u ""), (0, .fieldref 10 11), (0, .class_ 12), (0, .nameAndType 13 14), (0, u "java/lang/String"), (0, u "value"), (0, u "[B"), (0, .fieldref 10 16), (0, .nameAndType 17 18), (0, u "coder"), (0, u "B"), (2, u "hash"), (0, u "I"), (2, u "hashIsZero"), (0, u "Z"), (0, .methodref 10 28), (0, .nameAndType 5 29), (0, u "([CIILjava/lang/Void;)V"), (6, u "checkBoundsOffCount"), (0, u "(III)I"), (0, .fieldref 10 39), (0, .nameAndType 40 26), (0, u "COMPACT_STRINGS"), (1, .class_ 44), (1, u "java/lang/StringUTF16"), (0, u "compress"), (1, .methodref 42 48), (0, .nameAndType 49 50), (0, u "coderFromArrayLen"), (0, u "([BI)B"), (3, .methodref 55 56), (0, .class_ 57), (0, .nameAndType 58 59), (0, u "java/util/Arrays"), (0, u "copyOfRange"), (0, u "([BII)[B"), (46, .methodref 107 108), (0, .class_ 109), (0, .nameAndType 110 111), (0, u "java/lang/StringLatin1"), (0, u "inflate"), (0, u "([BI[BII)V"), (30, u "()Z"), (34, .methodref 42 178), (0, .nameAndType 45 179), (0, u "([CII)[B"), (13, .class_ 195), (1, u "java/lang/System"), (16, .methodref 193 213), (0, .nameAndType 214 215), (0, u "arraycopy"), (0, u "(Ljava/lang/Object;ILjava/lang/Object;II)V"), (118, u "()I"), (0, .methodref 10 336), (0, .nameAndType 17 337), (0, u "()B"), (2, u "()[B"), (22, u "([BI)C"), (27, u "(II)V"), (35, u "(I)C"), (61, .methodref 10 490), (0, .nameAndType 5 491), (0, u "(Ljava/lang/AbstractStringBuilder;Ljava/lang/Void;)V"), (0, .methodref 10 493), (0, .nameAndType 494 142), (0, u "isLatin1"), (0, .methodref 107 496), (0, .nameAndType 497 363), (0, u "charAt"), (0, .methodref 42 496), (2, u "checkIndex"), (4, .nameAndType 507 334), (0, u "length"), (5, u "checkFromToIndex"), (9, u "checkBoundsBeginEnd"), (0, u "(III)V"), (7, u "getBytes"), (16, .methodref 550 506), (0, .class_ 551), (0, u "java/lang/AbstractStringBuilder"), (0, .methodref 550 553), (0, .nameAndType 554 340), (0, u "getValue"), (20, .class_ 576), (0, u "java/lang/CharSequence"), (22, u "CASE_INSENSITIVE_ORDER"), (0, u "Ljava/util/Comparator;"), (220, u "([BIB)V"), (188, u "([C)V"), (36, .methodref 550 493), (0, .fieldref 550 1049), (0, .nameAndType 1050 26), (0, u "maybeLatin1"), (2, .fieldref 1054 1055), (0, .class_ 1056), (0, .nameAndType 1057 1058), (0, u "jdk/internal/util/Preconditions"), (0, u "SIOOBE_FORMATTER"), (0, u "Ljava/util/function/BiFunction;"), (0, .methodref 1054 1060), (0, .nameAndType 501 1061), (0, u "(IILjava/util/function/BiFunction;)I"), (0, .methodref 1054 1063), (0, .nameAndType 513 1064), (0, u "(IIILjava/util/function/BiFunction;)I"), (0, .methodref 1054 1066), (0, .nameAndType 1067 1064), (0, u "checkFromIndexSize"), (33, u "serialPersistentFields"), (0, u "[Ljava/io/ObjectStreamField;"), (0, .class_ 1104), (0, u "java/lang/String$CaseInsensitiveComparator"), (1, .class_ 1107), (0, u "java/io/Serializable"), (0, .class_ 1109), (0, u "java/lang/Comparable"), (0, .class_ 1111), (0, u "java/lang/constant/Constable"), (0, .class_ 1113), (0, u "java/lang/constant/ConstantDesc"), (2, u "serialVersionUID"), (0, u "J"), (3, u "REPL"), (0, u "C"), (2, u "LATIN1"), (1, u "UTF16"), (105, u "(Ljava/lang/StringBuilder;)V")] 217

def k7m0 : Method := { name := "<init>", desc := "()V", sig := { parameters := [], returnType := none }, accessFlags := 1, code := none }
def k7c1 : Code := { maxStack := 5, maxLocals := 2, code := jdk_42_method_3_code, exceptionTable := #[], attributes := #[] }
def k7m1 : Method := { name := "<init>", desc := "([C)V", sig := { parameters := [(.array .char)], returnType := none }, accessFlags := 1, code := some k7c1 }
def k7c2 : Code := { maxStack := 3, maxLocals := 2, code := jdk_42_method_53_code, exceptionTable := #[], attributes := #[] }
def k7m2 : Method := { name := "<init>", desc := "(Ljava/lang/StringBuilder;)V", sig := { parameters := [(.object "java/lang/StringBuilder")], returnType := none }, accessFlags := 1, code := some k7c2 }
def k7c3 : Code := { maxStack := 2, maxLocals := 1, code := jdk_42_method_54_code, exceptionTable := #[], attributes := #[] }
def k7m3 : Method := { name := "length", desc := "()I", sig := { parameters := [], returnType := some .int }, accessFlags := 1, code := some k7c3 }
def k7c4 : Code := { maxStack := 2, maxLocals := 2, code := jdk_42_method_56_code, exceptionTable := #[], attributes := #[] }
def k7m4 : Method := { name := "charAt", desc := "(I)C", sig := { parameters := [.int], returnType := some .char }, accessFlags := 1, code := some k7c4 }
def k7c5 : Code := { maxStack := 5, maxLocals := 4, code := jdk_42_method_147_code, exceptionTable := #[], attributes := #[] }
def k7m5 : Method := { name := "getBytes", desc := "([BIB)V", sig := { parameters := [(.array .byte), .int, .byte], returnType := none }, accessFlags := 0, code := some k7c5 }
def k7c6 : Code := { maxStack := 4, maxLocals := 6, code := jdk_42_method_149_code, exceptionTable := #[], attributes := #[] }
def k7m6 : Method := { name := "<init>", desc := "([CIILjava/lang/Void;)V", sig := { parameters := [(.array .char), .int, .int, (.object "java/lang/Void")], returnType := none }, accessFlags := 2, code := some k7c6 }
def k7c7 : Code := { maxStack := 5, maxLocals := 5, code := jdk_42_method_150_code, exceptionTable := #[], attributes := #[] }
def k7m7 : Method := { name := "<init>", desc := "(Ljava/lang/AbstractStringBuilder;Ljava/lang/Void;)V", sig := { parameters := [(.object "java/lang/AbstractStringBuilder"), (.object "java/lang/Void")], returnType := none }, accessFlags := 0, code := some k7c7 }
def k7c8 : Code := { maxStack := 1, maxLocals := 1, code := jdk_42_method_152_code, exceptionTable := #[], attributes := #[] }
def k7m8 : Method := { name := "coder", desc := "()B", sig := { parameters := [], returnType := some .byte }, accessFlags := 0, code := some k7c8 }
def k7c9 : Code := { maxStack := 1, maxLocals := 1, code := jdk_42_method_154_code, exceptionTable := #[], attributes := #[] }
def k7m9 : Method := { name := "isLatin1", desc := "()Z", sig := { parameters := [], returnType := some .boolean }, accessFlags := 0, code := some k7c9 }
def k7c10 : Code := { maxStack := 3, maxLocals := 2, code := jdk_42_method_155_code, exceptionTable := #[], attributes := #[] }
def k7m10 : Method := { name := "checkIndex", desc := "(II)V", sig := { parameters := [.int, .int], returnType := none }, accessFlags := 8, code := some k7c10 }
def k7c11 : Code := { maxStack := 4, maxLocals := 3, code := jdk_42_method_157_code, exceptionTable := #[], attributes := #[] }
def k7m11 : Method := { name := "checkBoundsOffCount", desc := "(III)I", sig := { parameters := [.int, .int, .int], returnType := some .int }, accessFlags := 8, code := some k7c11 }
def k7c12 : Code := { maxStack := 4, maxLocals := 3, code := jdk_42_method_158_code, exceptionTable := #[], attributes := #[] }
def k7m12 : Method := { name := "checkBoundsBeginEnd", desc := "(III)V", sig := { parameters := [.int, .int, .int], returnType := none }, accessFlags := 8, code := some k7c12 }
/-- java/lang/String -/
def k7 : Class := { plain "java/lang/String" (some 0) with
  accessFlags := 49
  interfaces := #[2, 3, 4, 5, 6]
  cf := some (fileOf pool7 10 #[.nestMembers #[1103]] #[{ accessFlags := 1, nameIndex := 5, descriptorIndex := 6, attributes := #[] }, { accessFlags := 1, nameIndex := 5, descriptorIndex := 1010, attributes := #[] }, { accessFlags := 1, nameIndex := 5, descriptorIndex := 1233, attributes := #[] }, { accessFlags := 1, nameIndex := 507, descriptorIndex := 334, attributes := #[] }, { accessFlags := 1, nameIndex := 497, descriptorIndex := 427, attributes := #[] }, { accessFlags := 0, nameIndex := 532, descriptorIndex := 821, attributes := #[] }, { accessFlags := 2, nameIndex := 5, descriptorIndex := 29, attributes := #[] }, { accessFlags := 0, nameIndex := 5, descriptorIndex := 491, attributes := #[] }, { accessFlags := 0, nameIndex := 17, descriptorIndex := 337, attributes := #[] }, { accessFlags := 0, nameIndex := 494, descriptorIndex := 142, attributes := #[] }, { accessFlags := 8, nameIndex := 501, descriptorIndex := 391, attributes := #[] }, { accessFlags := 8, nameIndex := 36, descriptorIndex := 37, attributes := #[] }, { accessFlags := 8, nameIndex := 523, descriptorIndex := 524, attributes := #[] }] 49 2 #[1106, 1108, 575, 1110, 1112] #[{ accessFlags := 18, nameIndex := 13, descriptorIndex := 14, attributes := #[] }, { accessFlags := 18, nameIndex := 17, descriptorIndex := 18, attributes := #[] }, { accessFlags := 2, nameIndex := 21, descriptorIndex := 22, attributes := #[] }, { accessFlags := 2, nameIndex := 25, descriptorIndex := 26, attributes := #[] }, { accessFlags := 26, nameIndex := 1116, descriptorIndex := 1117, attributes := #[] }, { accessFlags := 24, nameIndex := 40, descriptorIndex := 26, attributes := #[] }, { accessFlags := 26, nameIndex := 1101, descriptorIndex := 1102, attributes := #[] }, { accessFlags := 26, nameIndex := 1121, descriptorIndex := 1122, attributes := #[] }, { accessFlags := 25, nameIndex := 599, descriptorIndex := 600, attributes := #[] }, { accessFlags := 24, nameIndex := 1125, descriptorIndex := 18, attributes := #[] }, { accessFlags := 24, nameIndex := 1127, descriptorIndex := 18, attributes := #[] }])
  fields := #[{ name := "value", type := (.array .byte), accessFlags := 18, slot := 0, constantValue := 0 }, { name := "coder", type := .byte, accessFlags := 18, slot := 1, constantValue := 0 }, { name := "hash", type := .int, accessFlags := 2, slot := 2, constantValue := 0 }, { name := "hashIsZero", type := .boolean, accessFlags := 2, slot := 3, constantValue := 0 }, { name := "serialVersionUID", type := .long, accessFlags := 26, slot := 0, constantValue := 0 }, { name := "COMPACT_STRINGS", type := .boolean, accessFlags := 24, slot := 1, constantValue := 0 }, { name := "serialPersistentFields", type := (.array (.object "java/io/ObjectStreamField")), accessFlags := 26, slot := 2, constantValue := 0 }, { name := "REPL", type := .char, accessFlags := 26, slot := 3, constantValue := 0 }, { name := "CASE_INSENSITIVE_ORDER", type := (.object "java/util/Comparator"), accessFlags := 25, slot := 4, constantValue := 0 }, { name := "LATIN1", type := .byte, accessFlags := 24, slot := 5, constantValue := 0 }, { name := "UTF16", type := .byte, accessFlags := 24, slot := 6, constantValue := 0 }]
  methods := #[k7m0, k7m1, k7m2, k7m3, k7m4, k7m5, k7m6, k7m7, k7m8, k7m9, k7m10, k7m11, k7m12]
  instanceTypes := #[(.array .byte), .byte, .int, .boolean]
  staticTypes := #[.long, .boolean, (.array (.object "java/io/ObjectStreamField")), .char, (.object "java/util/Comparator"), .byte, .byte]
  resolved := Array.replicate 1451 none
  statics := some 0 }

def pool8 : Array CpInfo := pool [(1, .class_ 2), (0, u "java/lang/Appendable"), (0, .class_ 4), (0, u "java/lang/Object")] 9

/-- java/lang/Appendable -/
def k8 : Class := { plain "java/lang/Appendable" (some 0) with
  accessFlags := 1537
  interfaces := #[]
  cf := some (fileOf pool8 1 #[] #[] 1537 3 #[] #[])
  fields := #[]
  methods := #[]
  instanceTypes := #[]
  staticTypes := #[]
  resolved := Array.replicate 14 none
  statics := none }

def pool9 : Array CpInfo := pool [(1, .class_ 2), (0, u "java/lang/AutoCloseable"), (0, .class_ 4), (0, u "java/lang/Object")] 7

/-- java/lang/AutoCloseable -/
def k9 : Class := { plain "java/lang/AutoCloseable" (some 0) with
  accessFlags := 1537
  interfaces := #[]
  cf := some (fileOf pool9 1 #[] #[] 1537 3 #[] #[])
  fields := #[]
  methods := #[]
  instanceTypes := #[]
  staticTypes := #[]
  resolved := Array.replicate 12 none
  statics := none }

def pool10 : Array CpInfo := pool [(1, .class_ 2), (0, u "java/io/Closeable"), (0, .class_ 4), (0, u "java/lang/Object"), (0, .class_ 6), (0, u "java/lang/AutoCloseable")] 7

/-- java/io/Closeable -/
def k10 : Class := { plain "java/io/Closeable" (some 0) with
  accessFlags := 1537
  interfaces := #[9]
  cf := some (fileOf pool10 1 #[] #[] 1537 3 #[5] #[])
  fields := #[]
  methods := #[]
  instanceTypes := #[]
  staticTypes := #[]
  resolved := Array.replicate 14 none
  statics := none }

def pool11 : Array CpInfo := pool [(1, .class_ 2), (0, u "java/io/Flushable"), (0, .class_ 4), (0, u "java/lang/Object")] 7

/-- java/io/Flushable -/
def k11 : Class := { plain "java/io/Flushable" (some 0) with
  accessFlags := 1537
  interfaces := #[]
  cf := some (fileOf pool11 1 #[] #[] 1537 3 #[] #[])
  fields := #[]
  methods := #[]
  instanceTypes := #[]
  staticTypes := #[]
  resolved := Array.replicate 12 none
  statics := none }

def pool12 : Array CpInfo := pool [(1, .class_ 2), (0, u "java/io/Writer$1"), (1, .nameAndType 5 6), (0, u "<init>"), (0, u "()V"), (0, .methodref 8 4), (0, .class_ 9), (0, u "java/lang/Object"), (0, .fieldref 11 12), (0, .class_ 13), (0, .nameAndType 14 15), (0, u "java/io/Writer"), (0, u "lock"), (0, u "Ljava/lang/Object;"), (30, u "writeBuffer"), (0, u "[C"), (46, .class_ 95), (0, u "java/lang/Appendable"), (0, .class_ 97), (0, u "java/io/Closeable"), (0, .class_ 99), (0, u "java/io/Flushable"), (0, u "WRITE_BUFFER_SIZE"), (0, u "I")] 49

def k12c0 : Code := { maxStack := 2, maxLocals := 1, code := jdk_2052_method_2_code, exceptionTable := #[], attributes := #[] }
def k12m0 : Method := { name := "<init>", desc := "()V", sig := { parameters := [], returnType := none }, accessFlags := 4, code := some k12c0 }
/-- java/io/Writer -/
def k12 : Class := { plain "java/io/Writer" (some 0) with
  accessFlags := 1057
  interfaces := #[8, 10, 11]
  cf := some (fileOf pool12 11 #[.nestMembers #[1]] #[{ accessFlags := 4, nameIndex := 5, descriptorIndex := 6, attributes := #[] }] 1057 8 #[94, 96, 98] #[{ accessFlags := 2, nameIndex := 46, descriptorIndex := 47, attributes := #[] }, { accessFlags := 26, nameIndex := 100, descriptorIndex := 101, attributes := #[] }, { accessFlags := 4, nameIndex := 14, descriptorIndex := 15, attributes := #[] }])
  fields := #[{ name := "writeBuffer", type := (.array .char), accessFlags := 2, slot := 0, constantValue := 0 }, { name := "WRITE_BUFFER_SIZE", type := .int, accessFlags := 26, slot := 0, constantValue := 0 }, { name := "lock", type := (.object "java/lang/Object"), accessFlags := 4, slot := 1, constantValue := 0 }]
  methods := #[k12m0]
  instanceTypes := #[(.array .char), (.object "java/lang/Object")]
  staticTypes := #[.int]
  resolved := Array.replicate 151 none
  statics := none }

def pool13 : Array CpInfo := pool [(1, .methodref 2 3), (0, .class_ 4), (0, .nameAndType 5 6), (0, u "java/io/Writer"), (0, u "<init>"), (0, u "()V"), (0, .methodref 8 9), (0, .class_ 10), (0, .nameAndType 11 12), (0, u "com/example/ply3/ply3/TextWriter"), (0, u "builder"), (0, u "()Ljava/lang/StringBuilder;"), (0, .methodref 14 15), (0, .class_ 16), (0, .nameAndType 17 18), (0, u "java/lang/StringBuilder"), (0, u "append"), (0, u "(C)Ljava/lang/StringBuilder;"), (0, .methodref 14 20), (0, .nameAndType 17 21), (0, u "([CII)Ljava/lang/StringBuilder;"), (0, .string 23), (0, u "string"), (0, .methodref 25 26), (0, .class_ 27), (0, .nameAndType 28 29), (0, u "java/util/Objects"), (0, u "requireNonNull"), (0, u "(Ljava/lang/Object;Ljava/lang/String;)Ljava/lang/Object;"), (0, .fieldref 8 31), (0, .nameAndType 32 33), (0, u "whole"), (0, u "Ljava/lang/String;"), (0, .fieldref 8 35), (0, .nameAndType 36 37), (0, u "text"), (0, u "Ljava/lang/StringBuilder;"), (0, .methodref 14 39), (0, .nameAndType 17 40), (0, u "(Ljava/lang/String;)Ljava/lang/StringBuilder;"), (3, .methodref 14 45), (0, .nameAndType 46 47), (0, u "toString"), (0, u "()Ljava/lang/String;"), (0, .string 49), (0, u ""), (0, .methodref 14 3), (2, u "write"), (0, u "(I)V"), (0, u "([CII)V"), (0, u "(Ljava/lang/String;)V")] 8

def k13c0 : Code := { maxStack := 1, maxLocals := 1, code := prog_33_method_1_code, exceptionTable := #[], attributes := #[] }
def k13m0 : Method := { name := "<init>", desc := "()V", sig := { parameters := [], returnType := none }, accessFlags := 0, code := some k13c0 }
def k13c1 : Code := { maxStack := 2, maxLocals := 2, code := prog_33_method_2_code, exceptionTable := #[], attributes := #[] }
def k13m1 : Method := { name := "write", desc := "(I)V", sig := { parameters := [.int], returnType := none }, accessFlags := 1, code := some k13c1 }
def k13c2 : Code := { maxStack := 4, maxLocals := 4, code := prog_33_method_3_code, exceptionTable := #[], attributes := #[] }
def k13m2 : Method := { name := "write", desc := "([CII)V", sig := { parameters := [(.array .char), .int, .int], returnType := none }, accessFlags := 1, code := some k13c2 }
def k13c3 : Code := { maxStack := 2, maxLocals := 2, code := prog_33_method_4_code, exceptionTable := #[], attributes := #[] }
def k13m3 : Method := { name := "write", desc := "(Ljava/lang/String;)V", sig := { parameters := [(.object "java/lang/String")], returnType := none }, accessFlags := 1, code := some k13c3 }
def k13c4 : Code := { maxStack := 1, maxLocals := 1, code := prog_33_method_8_code, exceptionTable := #[], attributes := #[] }
def k13m4 : Method := { name := "toString", desc := "()Ljava/lang/String;", sig := { parameters := [], returnType := some (.object "java/lang/String") }, accessFlags := 1, code := some k13c4 }
def k13c5 : Code := { maxStack := 3, maxLocals := 1, code := prog_33_method_9_code, exceptionTable := #[], attributes := #[] }
def k13m5 : Method := { name := "builder", desc := "()Ljava/lang/StringBuilder;", sig := { parameters := [], returnType := some (.object "java/lang/StringBuilder") }, accessFlags := 2, code := some k13c5 }
/-- com/example/ply3/ply3/TextWriter -/
def k13 : Class := { plain "com/example/ply3/ply3/TextWriter" (some 12) with
  accessFlags := 32
  interfaces := #[]
  cf := some (fileOf pool13 8 #[] #[{ accessFlags := 0, nameIndex := 5, descriptorIndex := 6, attributes := #[] }, { accessFlags := 1, nameIndex := 53, descriptorIndex := 54, attributes := #[] }, { accessFlags := 1, nameIndex := 53, descriptorIndex := 55, attributes := #[] }, { accessFlags := 1, nameIndex := 53, descriptorIndex := 56, attributes := #[] }, { accessFlags := 1, nameIndex := 46, descriptorIndex := 47, attributes := #[] }, { accessFlags := 2, nameIndex := 11, descriptorIndex := 12, attributes := #[] }] 32 2 #[] #[{ accessFlags := 2, nameIndex := 32, descriptorIndex := 33, attributes := #[] }, { accessFlags := 2, nameIndex := 36, descriptorIndex := 37, attributes := #[] }])
  fields := #[{ name := "whole", type := (.object "java/lang/String"), accessFlags := 2, slot := 2, constantValue := 0 }, { name := "text", type := (.object "java/lang/StringBuilder"), accessFlags := 2, slot := 3, constantValue := 0 }]
  methods := #[k13m0, k13m1, k13m2, k13m3, k13m4, k13m5]
  instanceTypes := #[(.array .char), (.object "java/lang/Object"), (.object "java/lang/String"), (.object "java/lang/StringBuilder")]
  staticTypes := #[]
  resolved := Array.replicate 65 none
  statics := none }

def pool14 : Array CpInfo := pool [(3, .class_ 4), (0, u "java/lang/String"), (1, .class_ 8), (1, u "java/lang/Object"), (0, u "<init>"), (0, u "()V"), (0, .methodref 12 13), (0, .class_ 14), (0, .nameAndType 15 16), (0, u "java/lang/StringUTF16"), (0, u "newBytesLength"), (0, u "(I)I"), (3, .integer 1073741823), (23, .fieldref 12 45), (0, .nameAndType 46 47), (0, u "$assertionsDisabled"), (0, u "Z"), (0, .methodref 12 49), (0, .nameAndType 50 51), (0, u "length"), (0, u "([B)I"), (7, .fieldref 12 60), (0, .nameAndType 61 62), (0, u "HI_BYTE_SHIFT"), (0, u "I"), (0, .fieldref 12 64), (0, .nameAndType 65 62), (0, u "LO_BYTE_SHIFT"), (1, .methodref 12 68), (0, .nameAndType 69 70), (0, u "checkIndex"), (0, u "(I[B)V"), (0, .methodref 12 72), (0, .nameAndType 73 74), (0, u "getChar"), (0, u "([BI)C"), (21, .methodref 12 97), (0, .nameAndType 98 99), (0, u "checkBoundsBeginEnd"), (0, u "(II[B)V"), (7, .methodref 12 108), (0, .nameAndType 109 110), (0, u "newBytesFor"), (0, u "(I)[B"), (0, .methodref 12 112), (0, .nameAndType 113 114), (0, u "putChar"), (0, u "([BII)V"), (0, .methodref 12 116), (0, .nameAndType 117 118), (0, u "compress"), (0, u "([CI[BII)I"), (0, .methodref 12 120), (0, .nameAndType 121 122), (0, u "toBytes"), (0, u "([CII)[B"), (17, u "inflate"), (0, u "([BI[BII)V"), (31, .methodref 12 174), (0, .nameAndType 175 99), (0, u "checkBoundsOffCount"), (65, .methodref 3 242), (0, .nameAndType 98 243), (0, u "(III)V"), (17, u "coderFromArrayLen"), (0, u "([BI)B"), (18, u "(III)I"), (87, .class_ 371), (1, u "java/lang/StringUTF16$LinesSpliterator"), (12, .methodref 12 385), (0, .nameAndType 386 387), (0, u "putChars"), (0, u "([BI[CII)V"), (4, u "charAt"), (21, .methodref 3 415), (0, .nameAndType 69 416), (0, u "(II)V"), (2, .methodref 3 420), (0, .nameAndType 175 281), (9, u "MAX_LENGTH"), (155, u "putCharSB"), (0, u "putCharsSB"), (39, .class_ 628), (0, u "java/lang/StringUTF16$CodePointsSpliterator"), (0, .class_ 630), (0, u "java/lang/StringUTF16$CharsSpliterator")] 4

def k14m0 : Method := { name := "<init>", desc := "()V", sig := { parameters := [], returnType := none }, accessFlags := 0, code := none }
def k14c1 : Code := { maxStack := 1, maxLocals := 1, code := jdk_52_method_2_code, exceptionTable := #[], attributes := #[] }
def k14m1 : Method := { name := "newBytesFor", desc := "(I)[B", sig := { parameters := [.int], returnType := some (.array .byte) }, accessFlags := 9, code := some k14c1 }
def k14c2 : Code := { maxStack := 4, maxLocals := 1, code := jdk_52_method_3_code, exceptionTable := #[], attributes := #[] }
def k14m2 : Method := { name := "newBytesLength", desc := "(I)I", sig := { parameters := [.int], returnType := some .int }, accessFlags := 9, code := some k14c2 }
def k14c3 : Code := { maxStack := 4, maxLocals := 3, code := jdk_52_method_4_code, exceptionTable := #[], attributes := #[] }
def k14m3 : Method := { name := "putChar", desc := "([BII)V", sig := { parameters := [(.array .byte), .int, .int], returnType := none }, accessFlags := 8, code := some k14c3 }
def k14c4 : Code := { maxStack := 3, maxLocals := 2, code := jdk_52_method_5_code, exceptionTable := #[], attributes := #[] }
def k14m4 : Method := { name := "getChar", desc := "([BI)C", sig := { parameters := [(.array .byte), .int], returnType := some .char }, accessFlags := 8, code := some k14c4 }
def k14c5 : Code := { maxStack := 2, maxLocals := 1, code := jdk_52_method_6_code, exceptionTable := #[], attributes := #[] }
def k14m5 : Method := { name := "length", desc := "([B)I", sig := { parameters := [(.array .byte)], returnType := some .int }, accessFlags := 9, code := some k14c5 }
def k14c6 : Code := { maxStack := 4, maxLocals := 5, code := jdk_52_method_14_code, exceptionTable := #[], attributes := #[] }
def k14m6 : Method := { name := "toBytes", desc := "([CII)[B", sig := { parameters := [(.array .char), .int, .int], returnType := some (.array .byte) }, accessFlags := 9, code := some k14c6 }
def k14c7 : Code := { maxStack := 2, maxLocals := 2, code := jdk_52_method_15_code, exceptionTable := #[], attributes := #[] }
def k14m7 : Method := { name := "coderFromArrayLen", desc := "([BI)B", sig := { parameters := [(.array .byte), .int], returnType := some .byte }, accessFlags := 8, code := some k14c7 }
def k14c8 : Code := { maxStack := 5, maxLocals := 6, code := jdk_52_method_16_code, exceptionTable := #[], attributes := #[] }
def k14m8 : Method := { name := "compress", desc := "([CII)[B", sig := { parameters := [(.array .char), .int, .int], returnType := some (.array .byte) }, accessFlags := 9, code := some k14c8 }
def k14c9 : Code := { maxStack := 3, maxLocals := 7, code := jdk_52_method_21_code, exceptionTable := #[], attributes := #[] }
def k14m9 : Method := { name := "compress", desc := "([CI[BII)I", sig := { parameters := [(.array .char), .int, (.array .byte), .int, .int], returnType := some .int }, accessFlags := 9, code := some k14c9 }
def k14c10 : Code := { maxStack := 4, maxLocals := 5, code := jdk_52_method_68_code, exceptionTable := #[], attributes := #[] }
def k14m10 : Method := { name := "putChars", desc := "([BI[CII)V", sig := { parameters := [(.array .byte), .int, (.array .char), .int, .int], returnType := none }, accessFlags := 10, code := some k14c10 }
def k14c11 : Code := { maxStack := 3, maxLocals := 3, code := jdk_52_method_71_code, exceptionTable := #[], attributes := #[] }
def k14m11 : Method := { name := "putCharSB", desc := "([BII)V", sig := { parameters := [(.array .byte), .int, .int], returnType := none }, accessFlags := 9, code := some k14c11 }
def k14c12 : Code := { maxStack := 5, maxLocals := 5, code := jdk_52_method_72_code, exceptionTable := #[], attributes := #[] }
def k14m12 : Method := { name := "putCharsSB", desc := "([BI[CII)V", sig := { parameters := [(.array .byte), .int, (.array .char), .int, .int], returnType := none }, accessFlags := 9, code := some k14c12 }
def k14c13 : Code := { maxStack := 2, maxLocals := 2, code := jdk_52_method_83_code, exceptionTable := #[], attributes := #[] }
def k14m13 : Method := { name := "charAt", desc := "([BI)C", sig := { parameters := [(.array .byte), .int], returnType := some .char }, accessFlags := 9, code := some k14c13 }
def k14c14 : Code := { maxStack := 4, maxLocals := 6, code := jdk_52_method_86_code, exceptionTable := #[], attributes := #[] }
def k14m14 : Method := { name := "inflate", desc := "([BI[BII)V", sig := { parameters := [(.array .byte), .int, (.array .byte), .int, .int], returnType := none }, accessFlags := 9, code := some k14c14 }
def k14c15 : Code := { maxStack := 2, maxLocals := 2, code := jdk_52_method_91_code, exceptionTable := #[], attributes := #[] }
def k14m15 : Method := { name := "checkIndex", desc := "(I[B)V", sig := { parameters := [.int, (.array .byte)], returnType := none }, accessFlags := 9, code := some k14c15 }
def k14c16 : Code := { maxStack := 3, maxLocals := 3, code := jdk_52_method_93_code, exceptionTable := #[], attributes := #[] }
def k14m16 : Method := { name := "checkBoundsBeginEnd", desc := "(II[B)V", sig := { parameters := [.int, .int, (.array .byte)], returnType := none }, accessFlags := 9, code := some k14c16 }
def k14c17 : Code := { maxStack := 3, maxLocals := 3, code := jdk_52_method_94_code, exceptionTable := #[], attributes := #[] }
def k14m17 : Method := { name := "checkBoundsOffCount", desc := "(II[B)V", sig := { parameters := [.int, .int, (.array .byte)], returnType := none }, accessFlags := 9, code := some k14c17 }
/-- java/lang/StringUTF16 -/
def k14 : Class := { plain "java/lang/StringUTF16" (some 0) with
  accessFlags := 48
  interfaces := #[]
  cf := some (fileOf pool14 12 #[.nestMembers #[627, 629, 369]] #[{ accessFlags := 0, nameIndex := 9, descriptorIndex := 10, attributes := #[] }, { accessFlags := 9, nameIndex := 109, descriptorIndex := 110, attributes := #[] }, { accessFlags := 9, nameIndex := 15, descriptorIndex := 16, attributes := #[] }, { accessFlags := 8, nameIndex := 113, descriptorIndex := 114, attributes := #[] }, { accessFlags := 8, nameIndex := 73, descriptorIndex := 74, attributes := #[] }, { accessFlags := 9, nameIndex := 50, descriptorIndex := 51, attributes := #[] }, { accessFlags := 9, nameIndex := 121, descriptorIndex := 122, attributes := #[] }, { accessFlags := 8, nameIndex := 261, descriptorIndex := 262, attributes := #[] }, { accessFlags := 9, nameIndex := 117, descriptorIndex := 122, attributes := #[] }, { accessFlags := 9, nameIndex := 117, descriptorIndex := 118, attributes := #[] }, { accessFlags := 10, nameIndex := 386, descriptorIndex := 387, attributes := #[] }, { accessFlags := 9, nameIndex := 586, descriptorIndex := 114, attributes := #[] }, { accessFlags := 9, nameIndex := 587, descriptorIndex := 387, attributes := #[] }, { accessFlags := 9, nameIndex := 392, descriptorIndex := 74, attributes := #[] }, { accessFlags := 9, nameIndex := 140, descriptorIndex := 141, attributes := #[] }, { accessFlags := 9, nameIndex := 69, descriptorIndex := 70, attributes := #[] }, { accessFlags := 9, nameIndex := 98, descriptorIndex := 99, attributes := #[] }, { accessFlags := 9, nameIndex := 175, descriptorIndex := 99, attributes := #[] }] 48 6 #[] #[{ accessFlags := 26, nameIndex := 61, descriptorIndex := 62, attributes := #[] }, { accessFlags := 26, nameIndex := 65, descriptorIndex := 62, attributes := #[] }, { accessFlags := 24, nameIndex := 430, descriptorIndex := 62, attributes := #[] }, { accessFlags := 4120, nameIndex := 46, descriptorIndex := 47, attributes := #[] }])
  fields := #[{ name := "HI_BYTE_SHIFT", type := .int, accessFlags := 26, slot := 0, constantValue := 0 }, { name := "LO_BYTE_SHIFT", type := .int, accessFlags := 26, slot := 1, constantValue := 0 }, { name := "MAX_LENGTH", type := .int, accessFlags := 24, slot := 2, constantValue := 0 }, { name := "$assertionsDisabled", type := .boolean, accessFlags := 4120, slot := 3, constantValue := 0 }]
  methods := #[k14m0, k14m1, k14m2, k14m3, k14m4, k14m5, k14m6, k14m7, k14m8, k14m9, k14m10, k14m11, k14m12, k14m13, k14m14, k14m15, k14m16, k14m17]
  instanceTypes := #[]
  staticTypes := #[.int, .int, .int, .boolean]
  resolved := Array.replicate 635 none
  statics := some 1 }

def pool15 : Array CpInfo := pool [(1, .class_ 2), (0, u "java/lang/String"), (0, .methodref 4 5), (0, .class_ 6), (0, .nameAndType 7 8), (0, u "java/lang/Object"), (0, u "<init>"), (0, u "()V"), (1, .class_ 12), (1, u "java/lang/AbstractStringBuilder"), (0, u "EMPTYVALUE"), (0, u "[B"), (0, .fieldref 10 16), (0, .nameAndType 17 14), (0, u "value"), (0, .fieldref 1 19), (0, .nameAndType 20 21), (0, u "COMPACT_STRINGS"), (0, u "Z"), (0, .fieldref 10 23), (0, .nameAndType 24 25), (0, u "coder"), (0, u "B"), (0, .methodref 27 28), (0, .class_ 29), (0, .nameAndType 30 31), (0, u "java/lang/StringUTF16"), (0, u "newBytesFor"), (0, u "(I)[B"), (0, .methodref 1 33), (0, .nameAndType 34 35), (0, u "length"), (0, u "()I"), (4, .methodref 1 41), (0, .nameAndType 24 42), (0, u "()B"), (2, u "append"), (0, u "(Ljava/lang/String;)Ljava/lang/AbstractStringBuilder;"), (1, .class_ 49), (0, u "java/lang/CharSequence"), (19, u "(Ljava/lang/String;)V"), (5, u "maybeLatin1"), (3, .fieldref 10 80), (0, .nameAndType 81 82), (0, u "count"), (0, u "I"), (0, .methodref 10 84), (0, .nameAndType 85 86), (0, u "isLatin1"), (0, u "()Z"), (1, .class_ 90), (1, u "java/lang/StringLatin1"), (9, .methodref 10 101), (0, .nameAndType 102 103), (0, u "ensureCapacityInternal"), (0, u "(I)V"), (21, .methodref 88 126), (0, .nameAndType 127 128), (0, u "inflate"), (0, u "([BI[BII)V"), (7, u "([BII)V"), (24, .methodref 162 163), (0, .class_ 164), (0, .nameAndType 165 166), (0, u "jdk/internal/util/Preconditions"), (0, u "checkFromToIndex"), (0, u "(IIILjava/util/function/BiFunction;)I"), (15, u "Ljava/util/function/BiFunction;"), (0, .fieldref 162 184), (0, .nameAndType 185 182), (0, u "IOOBE_FORMATTER"), (5, .methodref 88 192), (0, .nameAndType 193 194), (0, u "canEncode"), (0, u "(C)Z"), (0, .methodref 10 196), (0, .nameAndType 127 8), (0, .methodref 27 198), (0, .nameAndType 199 136), (0, u "putCharSB"), (8, .methodref 10 209), (0, .nameAndType 210 211), (0, u "putStringAt"), (0, u "(ILjava/lang/String;)V"), (5, u "inflateIfNeededFor"), (2, .nameAndType 221 222), (0, u "getBytes"), (0, u "([BIB)V"), (11, u "appendChars"), (4, .methodref 10 240), (0, .nameAndType 234 241), (0, u "([CII)V"), (50, u "(C)Ljava/lang/AbstractStringBuilder;"), (93, .methodref 27 387), (0, .nameAndType 388 389), (0, u "putCharsSB"), (0, u "([BI[CII)V"), (7, .methodref 10 398), (0, .nameAndType 217 69), (0, .methodref 1 220), (3, u "()[B"), (40, .class_ 445), (0, u "java/lang/Appendable"), (60, u "([CII)Ljava/lang/AbstractStringBuilder;"), (45, u "getValue")] 56

def k15m0 : Method := { name := "<init>", desc := "()V", sig := { parameters := [], returnType := none }, accessFlags := 0, code := none }
def k15c1 : Code := { maxStack := 2, maxLocals := 2, code := jdk_68_method_2_code, exceptionTable := #[], attributes := #[] }
def k15m1 : Method := { name := "<init>", desc := "(I)V", sig := { parameters := [.int], returnType := none }, accessFlags := 0, code := some k15c1 }
def k15c2 : Code := { maxStack := 1, maxLocals := 1, code := jdk_68_method_6_code, exceptionTable := #[], attributes := #[] }
def k15m2 : Method := { name := "length", desc := "()I", sig := { parameters := [], returnType := some .int }, accessFlags := 1, code := some k15c2 }
def k15c3 : Code := { maxStack := 4, maxLocals := 3, code := jdk_68_method_9_code, exceptionTable := #[], attributes := #[] }
def k15m3 : Method := { name := "ensureCapacityInternal", desc := "(I)V", sig := { parameters := [.int], returnType := none }, accessFlags := 2, code := some k15c3 }
def k15c4 : Code := { maxStack := 5, maxLocals := 2, code := jdk_68_method_11_code, exceptionTable := #[], attributes := #[] }
def k15m4 : Method := { name := "inflate", desc := "()V", sig := { parameters := [], returnType := none }, accessFlags := 2, code := some k15c4 }
def k15c5 : Code := { maxStack := 3, maxLocals := 3, code := jdk_68_method_22_code, exceptionTable := #[], attributes := #[] }
def k15m5 : Method := { name := "append", desc := "(Ljava/lang/String;)Ljava/lang/AbstractStringBuilder;", sig := { parameters := [(.object "java/lang/String")], returnType := some (.object "java/lang/AbstractStringBuilder") }, accessFlags := 1, code := some k15c5 }
def k15c6 : Code := { maxStack := 4, maxLocals := 5, code := jdk_68_method_29_code, exceptionTable := #[], attributes := #[] }
def k15m6 : Method := { name := "append", desc := "([CII)Ljava/lang/AbstractStringBuilder;", sig := { parameters := [(.array .char), .int, .int], returnType := some (.object "java/lang/AbstractStringBuilder") }, accessFlags := 1, code := some k15c6 }
def k15c7 : Code := { maxStack := 5, maxLocals := 2, code := jdk_68_method_31_code, exceptionTable := #[], attributes := #[] }
def k15m7 : Method := { name := "append", desc := "(C)Ljava/lang/AbstractStringBuilder;", sig := { parameters := [.char], returnType := some (.object "java/lang/AbstractStringBuilder") }, accessFlags := 1, code := some k15c7 }
def k15c8 : Code := { maxStack := 1, maxLocals := 1, code := jdk_68_method_64_code, exceptionTable := #[], attributes := #[] }
def k15m8 : Method := { name := "getValue", desc := "()[B", sig := { parameters := [], returnType := some (.array .byte) }, accessFlags := 16, code := some k15c8 }
def k15c9 : Code := { maxStack := 1, maxLocals := 1, code := jdk_68_method_68_code, exceptionTable := #[], attributes := #[] }
def k15m9 : Method := { name := "isLatin1", desc := "()Z", sig := { parameters := [], returnType := some .boolean }, accessFlags := 16, code := some k15c9 }
def k15c10 : Code := { maxStack := 2, maxLocals := 2, code := jdk_68_method_71_code, exceptionTable := #[], attributes := #[] }
def k15m10 : Method := { name := "inflateIfNeededFor", desc := "(Ljava/lang/String;)V", sig := { parameters := [(.object "java/lang/String")], returnType := none }, accessFlags := 2, code := some k15c10 }
def k15c11 : Code := { maxStack := 4, maxLocals := 3, code := jdk_68_method_73_code, exceptionTable := #[], attributes := #[] }
def k15m11 : Method := { name := "putStringAt", desc := "(ILjava/lang/String;)V", sig := { parameters := [.int, (.object "java/lang/String")], returnType := none }, accessFlags := 2, code := some k15c11 }
def k15c12 : Code := { maxStack := 5, maxLocals := 9, code := jdk_68_method_74_code, exceptionTable := #[], attributes := #[] }
def k15m12 : Method := { name := "appendChars", desc := "([CII)V", sig := { parameters := [(.array .char), .int, .int], returnType := none }, accessFlags := 18, code := some k15c12 }
/-- java/lang/AbstractStringBuilder -/
def k15 : Class := { plain "java/lang/AbstractStringBuilder" (some 0) with
  accessFlags := 1056
  interfaces := #[8, 4]
  cf := some (fileOf pool15 10 #[] #[{ accessFlags := 0, nameIndex := 7, descriptorIndex := 8, attributes := #[] }, { accessFlags := 0, nameIndex := 7, descriptorIndex := 103, attributes := #[] }, { accessFlags := 1, nameIndex := 34, descriptorIndex := 35, attributes := #[] }, { accessFlags := 2, nameIndex := 102, descriptorIndex := 103, attributes := #[] }, { accessFlags := 2, nameIndex := 127, descriptorIndex := 8, attributes := #[] }, { accessFlags := 1, nameIndex := 45, descriptorIndex := 46, attributes := #[] }, { accessFlags := 1, nameIndex := 45, descriptorIndex := 506, attributes := #[] }, { accessFlags := 1, nameIndex := 45, descriptorIndex := 292, attributes := #[] }, { accessFlags := 16, nameIndex := 552, descriptorIndex := 403, attributes := #[] }, { accessFlags := 16, nameIndex := 85, descriptorIndex := 86, attributes := #[] }, { accessFlags := 2, nameIndex := 217, descriptorIndex := 69, attributes := #[] }, { accessFlags := 2, nameIndex := 210, descriptorIndex := 211, attributes := #[] }, { accessFlags := 18, nameIndex := 234, descriptorIndex := 241, attributes := #[] }] 1056 4 #[444, 48] #[{ accessFlags := 0, nameIndex := 17, descriptorIndex := 14, attributes := #[] }, { accessFlags := 0, nameIndex := 24, descriptorIndex := 25, attributes := #[] }, { accessFlags := 0, nameIndex := 75, descriptorIndex := 21, attributes := #[] }, { accessFlags := 0, nameIndex := 81, descriptorIndex := 82, attributes := #[] }, { accessFlags := 26, nameIndex := 13, descriptorIndex := 14, attributes := #[] }])
  fields := #[{ name := "value", type := (.array .byte), accessFlags := 0, slot := 0, constantValue := 0 }, { name := "coder", type := .byte, accessFlags := 0, slot := 1, constantValue := 0 }, { name := "maybeLatin1", type := .boolean, accessFlags := 0, slot := 2, constantValue := 0 }, { name := "count", type := .int, accessFlags := 0, slot := 3, constantValue := 0 }, { name := "EMPTYVALUE", type := (.array .byte), accessFlags := 26, slot := 0, constantValue := 0 }]
  methods := #[k15m0, k15m1, k15m2, k15m3, k15m4, k15m5, k15m6, k15m7, k15m8, k15m9, k15m10, k15m11, k15m12]
  instanceTypes := #[(.array .byte), .byte, .boolean, .int]
  staticTypes := #[(.array .byte)]
  resolved := Array.replicate 609 none
  statics := none }

def pool16 : Array CpInfo := pool [(1, .methodref 2 3), (0, .class_ 4), (0, .nameAndType 5 6), (0, u "java/lang/AbstractStringBuilder"), (0, u "<init>"), (0, u "(I)V"), (11, .class_ 20), (1, u "java/lang/String"), (3, .class_ 26), (1, u "java/lang/StringBuilder"), (0, u "append"), (0, u "(Ljava/lang/String;)Ljava/lang/StringBuilder;"), (0, .methodref 2 30), (0, .nameAndType 27 31), (0, u "(Ljava/lang/String;)Ljava/lang/AbstractStringBuilder;"), (12, .methodref 2 45), (0, .nameAndType 27 46), (0, u "([CII)Ljava/lang/AbstractStringBuilder;"), (3, .methodref 2 51), (0, .nameAndType 27 52), (0, u "(C)Ljava/lang/AbstractStringBuilder;"), (84, .methodref 18 138), (0, .nameAndType 5 139), (0, u "(Ljava/lang/StringBuilder;)V"), (5, u "()V"), (10, u "()I"), (129, u "(C)Ljava/lang/StringBuilder;"), (5, u "([CII)Ljava/lang/StringBuilder;"), (50, .methodref 2 344), (0, .nameAndType 345 156), (0, u "length"), (3, .class_ 350), (0, u "java/lang/Appendable"), (0, .class_ 352), (0, u "java/io/Serializable"), (0, .class_ 354), (0, u "java/lang/Comparable"), (0, .class_ 356), (0, u "java/lang/CharSequence"), (0, u "serialVersionUID"), (0, u "J"), (40, u "toString"), (0, u "()Ljava/lang/String;")] 21

def k16c0 : Code := { maxStack := 2, maxLocals := 1, code := jdk_67_method_1_code, exceptionTable := #[], attributes := #[] }
def k16m0 : Method := { name := "<init>", desc := "()V", sig := { parameters := [], returnType := none }, accessFlags := 1, code := some k16c0 }
def k16c1 : Code := { maxStack := 2, maxLocals := 2, code := jdk_67_method_7_code, exceptionTable := #[], attributes := #[] }
def k16m1 : Method := { name := "append", desc := "(Ljava/lang/String;)Ljava/lang/StringBuilder;", sig := { parameters := [(.object "java/lang/String")], returnType := some (.object "java/lang/StringBuilder") }, accessFlags := 1, code := some k16c1 }
def k16c2 : Code := { maxStack := 4, maxLocals := 4, code := jdk_67_method_12_code, exceptionTable := #[], attributes := #[] }
def k16m2 : Method := { name := "append", desc := "([CII)Ljava/lang/StringBuilder;", sig := { parameters := [(.array .char), .int, .int], returnType := some (.object "java/lang/StringBuilder") }, accessFlags := 1, code := some k16c2 }
def k16c3 : Code := { maxStack := 2, maxLocals := 2, code := jdk_67_method_14_code, exceptionTable := #[], attributes := #[] }
def k16m3 : Method := { name := "append", desc := "(C)Ljava/lang/StringBuilder;", sig := { parameters := [.char], returnType := some (.object "java/lang/StringBuilder") }, accessFlags := 1, code := some k16c3 }
def k16c4 : Code := { maxStack := 3, maxLocals := 1, code := jdk_67_method_42_code, exceptionTable := #[], attributes := #[] }
def k16m4 : Method := { name := "toString", desc := "()Ljava/lang/String;", sig := { parameters := [], returnType := some (.object "java/lang/String") }, accessFlags := 1, code := some k16c4 }
def k16c5 : Code := { maxStack := 1, maxLocals := 1, code := jdk_67_method_93_code, exceptionTable := #[], attributes := #[] }
def k16m5 : Method := { name := "length", desc := "()I", sig := { parameters := [], returnType := some .int }, accessFlags := 4161, code := some k16c5 }
/-- java/lang/StringBuilder -/
def k16 : Class := { plain "java/lang/StringBuilder" (some 15) with
  accessFlags := 49
  interfaces := #[8, 2, 3, 4]
  cf := some (fileOf pool16 24 #[] #[{ accessFlags := 1, nameIndex := 5, descriptorIndex := 145, attributes := #[] }, { accessFlags := 1, nameIndex := 27, descriptorIndex := 28, attributes := #[] }, { accessFlags := 1, nameIndex := 27, descriptorIndex := 292, attributes := #[] }, { accessFlags := 1, nameIndex := 27, descriptorIndex := 286, attributes := #[] }, { accessFlags := 1, nameIndex := 399, descriptorIndex := 400, attributes := #[] }, { accessFlags := 4161, nameIndex := 345, descriptorIndex := 156, attributes := #[] }] 49 2 #[349, 351, 353, 355] #[{ accessFlags := 24, nameIndex := 357, descriptorIndex := 358, attributes := #[] }])
  fields := #[{ name := "serialVersionUID", type := .long, accessFlags := 24, slot := 0, constantValue := 0 }]
  methods := #[k16m0, k16m1, k16m2, k16m3, k16m4, k16m5]
  instanceTypes := #[(.array .byte), .byte, .boolean, .int]
  staticTypes := #[.long]
  resolved := Array.replicate 422 none
  statics := none }

def pool17 : Array CpInfo := pool [(2, .class_ 4), (1, u "java/lang/Object"), (0, u "<init>"), (0, u "()V"), (17, .class_ 26), (1, u "jdk/internal/util/Preconditions"), (6, u "checkIndex"), (13, u "checkFromToIndex"), (1, u "checkFromIndexSize"), (5, .class_ 56), (0, u "jdk/internal/util/Preconditions$4"), (57, .class_ 115), (0, u "jdk/internal/util/Preconditions$1"), (7, u "SIOOBE_FORMATTER"), (0, u "Ljava/util/function/BiFunction;"), (0, .class_ 126), (0, u "jdk/internal/util/Preconditions$2"), (3, u "AIOOBE_FORMATTER"), (0, .class_ 132), (0, u "jdk/internal/util/Preconditions$3"), (3, u "IOOBE_FORMATTER"), (41, u "(IILjava/util/function/BiFunction;)I"), (4, u "(IIILjava/util/function/BiFunction;)I")] 10

def k17m0 : Method := { name := "<init>", desc := "()V", sig := { parameters := [], returnType := none }, accessFlags := 1, code := none }
def k17c1 : Code := { maxStack := 3, maxLocals := 3, code := jdk_41_method_11_code, exceptionTable := #[], attributes := #[] }
def k17m1 : Method := { name := "checkIndex", desc := "(IILjava/util/function/BiFunction;)I", sig := { parameters := [.int, .int, (.object "java/util/function/BiFunction")], returnType := some .int }, accessFlags := 9, code := some k17c1 }
def k17c2 : Code := { maxStack := 4, maxLocals := 4, code := jdk_41_method_12_code, exceptionTable := #[], attributes := #[] }
def k17m2 : Method := { name := "checkFromToIndex", desc := "(IIILjava/util/function/BiFunction;)I", sig := { parameters := [.int, .int, .int, (.object "java/util/function/BiFunction")], returnType := some .int }, accessFlags := 9, code := some k17c2 }
def k17c3 : Code := { maxStack := 4, maxLocals := 4, code := jdk_41_method_13_code, exceptionTable := #[], attributes := #[] }
def k17m3 : Method := { name := "checkFromIndexSize", desc := "(IIILjava/util/function/BiFunction;)I", sig := { parameters := [.int, .int, .int, (.object "java/util/function/BiFunction")], returnType := some .int }, accessFlags := 9, code := some k17c3 }
/-- jdk/internal/util/Preconditions -/
def k17 : Class := { plain "jdk/internal/util/Preconditions" (some 0) with
  accessFlags := 33
  interfaces := #[]
  cf := some (fileOf pool17 24 #[.nestMembers #[55, 131, 125, 114]] #[{ accessFlags := 1, nameIndex := 5, descriptorIndex := 6, attributes := #[] }, { accessFlags := 9, nameIndex := 33, descriptorIndex := 178, attributes := #[] }, { accessFlags := 9, nameIndex := 47, descriptorIndex := 183, attributes := #[] }, { accessFlags := 9, nameIndex := 49, descriptorIndex := 183, attributes := #[] }] 33 2 #[] #[{ accessFlags := 25, nameIndex := 123, descriptorIndex := 124, attributes := #[] }, { accessFlags := 25, nameIndex := 130, descriptorIndex := 124, attributes := #[] }, { accessFlags := 25, nameIndex := 136, descriptorIndex := 124, attributes := #[] }])
  fields := #[{ name := "SIOOBE_FORMATTER", type := (.object "java/util/function/BiFunction"), accessFlags := 25, slot := 0, constantValue := 0 }, { name := "AIOOBE_FORMATTER", type := (.object "java/util/function/BiFunction"), accessFlags := 25, slot := 1, constantValue := 0 }, { name := "IOOBE_FORMATTER", type := (.object "java/util/function/BiFunction"), accessFlags := 25, slot := 2, constantValue := 0 }]
  methods := #[k17m0, k17m1, k17m2, k17m3]
  instanceTypes := #[]
  staticTypes := #[(.object "java/util/function/BiFunction"), (.object "java/util/function/BiFunction"), (.object "java/util/function/BiFunction")]
  resolved := Array.replicate 194 none
  statics := some 2 }

def pool18 : Array CpInfo := pool [(1, .class_ 2), (0, u "java/lang/String"), (1, .class_ 6), (1, u "java/lang/Object"), (0, u "<init>"), (0, u "()V"), (0, .methodref 1 10), (0, .nameAndType 11 12), (0, u "checkIndex"), (0, u "(II)V"), (1, .class_ 16), (1, u "java/lang/StringLatin1"), (0, u "inflate"), (2, .class_ 22), (1, u "java/lang/StringUTF16"), (3, .nameAndType 17 27), (0, u "([BI[BII)V"), (25, u "([BI)C"), (36, u "canEncode"), (14, u "(C)Z"), (15, u "$assertionsDisabled"), (0, u "Z"), (98, .class_ 223), (1, u "java/lang/StringLatin1$LinesSpliterator"), (16, .methodref 20 26), (11, u "charAt"), (137, .class_ 391), (0, u "java/lang/StringLatin1$CharsSpliterator")] 3

def k18m0 : Method := { name := "<init>", desc := "()V", sig := { parameters := [], returnType := none }, accessFlags := 0, code := none }
def k18c1 : Code := { maxStack := 2, maxLocals := 2, code := jdk_43_method_2_code, exceptionTable := #[], attributes := #[] }
def k18m1 : Method := { name := "charAt", desc := "([BI)C", sig := { parameters := [(.array .byte), .int], returnType := some .char }, accessFlags := 9, code := some k18c1 }
def k18c2 : Code := { maxStack := 2, maxLocals := 1, code := jdk_43_method_3_code, exceptionTable := #[], attributes := #[] }
def k18m2 : Method := { name := "canEncode", desc := "(C)Z", sig := { parameters := [.char], returnType := some .boolean }, accessFlags := 9, code := some k18c2 }
def k18c3 : Code := { maxStack := 5, maxLocals := 5, code := jdk_43_method_50_code, exceptionTable := #[], attributes := #[] }
def k18m3 : Method := { name := "inflate", desc := "([BI[BII)V", sig := { parameters := [(.array .byte), .int, (.array .byte), .int, .int], returnType := none }, accessFlags := 9, code := some k18c3 }
/-- java/lang/StringLatin1 -/
def k18 : Class := { plain "java/lang/StringLatin1" (some 0) with
  accessFlags := 48
  interfaces := #[]
  cf := some (fileOf pool18 14 #[.nestMembers #[390, 221]] #[{ accessFlags := 0, nameIndex := 7, descriptorIndex := 8, attributes := #[] }, { accessFlags := 9, nameIndex := 252, descriptorIndex := 53, attributes := #[] }, { accessFlags := 9, nameIndex := 90, descriptorIndex := 105, attributes := #[] }, { accessFlags := 9, nameIndex := 17, descriptorIndex := 27, attributes := #[] }] 48 4 #[] #[{ accessFlags := 4120, nameIndex := 121, descriptorIndex := 122, attributes := #[] }])
  fields := #[{ name := "$assertionsDisabled", type := .boolean, accessFlags := 4120, slot := 0, constantValue := 0 }]
  methods := #[k18m0, k18m1, k18m2, k18m3]
  instanceTypes := #[]
  staticTypes := #[.boolean]
  resolved := Array.replicate 395 none
  statics := none }

def pool19 : Array CpInfo := pool [(2, .class_ 4), (1, u "java/lang/Object"), (0, u "<init>"), (0, u "()V"), (7, .class_ 16), (1, u "java/util/Arrays"), (57, .class_ 76), (1, u "java/util/Arrays$NaturalOrder"), (36, .class_ 115), (1, u "java/util/Arrays$LegacyMergeSort"), (1, u "Z"), (21, u "copyOfRange"), (10, .methodref 151 152), (0, .class_ 153), (0, .nameAndType 154 155), (0, u "java/lang/System"), (0, u "arraycopy"), (0, u "(Ljava/lang/Object;ILjava/lang/Object;II)V"), (148, .methodref 305 306), (0, .class_ 307), (0, .nameAndType 308 309), (0, u "java/lang/Math"), (0, u "min"), (0, u "(II)I"), (29, .methodref 14 340), (0, .nameAndType 341 342), (0, u "copyOfRangeByte"), (0, u "([BII)[B"), (0, .methodref 14 344), (0, .nameAndType 345 346), (0, u "checkLength"), (0, u "(II)V"), (28, .class_ 376), (0, u "java/util/Arrays$ArrayList"), (68, u "$assertionsDisabled"), (269, u "MIN_ARRAY_SORT_GRAN"), (0, u "I"), (2, u "INSERTIONSORT_THRESHOLD"), (255, .class_ 976), (0, u "java/util/Arrays$ArrayItr")] 52

def k19m0 : Method := { name := "<init>", desc := "()V", sig := { parameters := [], returnType := none }, accessFlags := 2, code := none }
def k19c1 : Code := { maxStack := 4, maxLocals := 2, code := jdk_65_method_131_code, exceptionTable := #[], attributes := #[] }
def k19m1 : Method := { name := "checkLength", desc := "(II)V", sig := { parameters := [.int, .int], returnType := none }, accessFlags := 10, code := some k19c1 }
def k19c2 : Code := { maxStack := 3, maxLocals := 3, code := jdk_65_method_132_code, exceptionTable := #[], attributes := #[] }
def k19m2 : Method := { name := "copyOfRange", desc := "([BII)[B", sig := { parameters := [(.array .byte), .int, .int], returnType := some (.array .byte) }, accessFlags := 9, code := some k19c2 }
def k19c3 : Code := { maxStack := 6, maxLocals := 5, code := jdk_65_method_133_code, exceptionTable := #[], attributes := #[] }
def k19m3 : Method := { name := "copyOfRangeByte", desc := "([BII)[B", sig := { parameters := [(.array .byte), .int, .int], returnType := some (.array .byte) }, accessFlags := 10, code := some k19c3 }
/-- java/util/Arrays -/
def k19 : Class := { plain "java/util/Arrays" (some 0) with
  accessFlags := 49
  interfaces := #[]
  cf := some (fileOf pool19 14 #[.nestMembers #[975, 375, 113, 74]] #[{ accessFlags := 2, nameIndex := 5, descriptorIndex := 6, attributes := #[] }, { accessFlags := 10, nameIndex := 345, descriptorIndex := 346, attributes := #[] }, { accessFlags := 9, nameIndex := 139, descriptorIndex := 342, attributes := #[] }, { accessFlags := 10, nameIndex := 341, descriptorIndex := 342, attributes := #[] }] 49 2 #[] #[{ accessFlags := 26, nameIndex := 715, descriptorIndex := 716, attributes := #[] }, { accessFlags := 26, nameIndex := 719, descriptorIndex := 716, attributes := #[] }, { accessFlags := 4120, nameIndex := 445, descriptorIndex := 117, attributes := #[] }])
  fields := #[{ name := "MIN_ARRAY_SORT_GRAN", type := .int, accessFlags := 26, slot := 0, constantValue := 0 }, { name := "INSERTIONSORT_THRESHOLD", type := .int, accessFlags := 26, slot := 1, constantValue := 0 }, { name := "$assertionsDisabled", type := .boolean, accessFlags := 4120, slot := 2, constantValue := 0 }]
  methods := #[k19m0, k19m1, k19m2, k19m3]
  instanceTypes := #[]
  staticTypes := #[.int, .int, .boolean]
  resolved := Array.replicate 1029 none
  statics := none }

def pool20 : Array CpInfo := pool [(1, .class_ 2), (0, u "java/lang/Math"), (1, .class_ 6), (1, u "java/lang/Object"), (0, u "<init>"), (0, u "()V"), (89, .class_ 100), (1, u "java/lang/Math$RandomNumberGeneratorHolder"), (71, u "negativeZeroFloatBits"), (0, u "J"), (2, u "negativeZeroDoubleBits"), (24, u "min"), (43, u "$assertionsDisabled"), (0, u "Z"), (88, u "(II)I"), (2, u "twoToTheDoubleScaleDown"), (0, u "D"), (4, u "twoToTheDoubleScaleUp"), (9, u "E"), (3, u "PI"), (2, u "TAU"), (2, u "DEGREES_TO_RADIANS"), (0, u "RADIANS_TO_DEGREES")] 94

def k20m0 : Method := { name := "<init>", desc := "()V", sig := { parameters := [], returnType := none }, accessFlags := 2, code := none }
def k20c1 : Code := { maxStack := 2, maxLocals := 2, code := jdk_29_method_69_code, exceptionTable := #[], attributes := #[] }
def k20m1 : Method := { name := "min", desc := "(II)I", sig := { parameters := [.int, .int], returnType := some .int }, accessFlags := 9, code := some k20c1 }
/-- java/lang/Math -/
def k20 : Class := { plain "java/lang/Math" (some 0) with
  accessFlags := 49
  interfaces := #[]
  cf := some (fileOf pool20 1 #[.nestMembers #[98]] #[{ accessFlags := 2, nameIndex := 7, descriptorIndex := 8, attributes := #[] }, { accessFlags := 9, nameIndex := 201, descriptorIndex := 335, attributes := #[] }] 49 4 #[] #[{ accessFlags := 25, nameIndex := 354, descriptorIndex := 339, attributes := #[] }, { accessFlags := 25, nameIndex := 358, descriptorIndex := 339, attributes := #[] }, { accessFlags := 25, nameIndex := 361, descriptorIndex := 339, attributes := #[] }, { accessFlags := 26, nameIndex := 364, descriptorIndex := 339, attributes := #[] }, { accessFlags := 26, nameIndex := 365, descriptorIndex := 339, attributes := #[] }, { accessFlags := 26, nameIndex := 172, descriptorIndex := 173, attributes := #[] }, { accessFlags := 26, nameIndex := 176, descriptorIndex := 173, attributes := #[] }, { accessFlags := 8, nameIndex := 344, descriptorIndex := 339, attributes := #[] }, { accessFlags := 8, nameIndex := 338, descriptorIndex := 339, attributes := #[] }, { accessFlags := 4120, nameIndex := 245, descriptorIndex := 246, attributes := #[] }])
  fields := #[{ name := "E", type := .double, accessFlags := 25, slot := 0, constantValue := 0 }, { name := "PI", type := .double, accessFlags := 25, slot := 1, constantValue := 0 }, { name := "TAU", type := .double, accessFlags := 25, slot := 2, constantValue := 0 }, { name := "DEGREES_TO_RADIANS", type := .double, accessFlags := 26, slot := 3, constantValue := 0 }, { name := "RADIANS_TO_DEGREES", type := .double, accessFlags := 26, slot := 4, constantValue := 0 }, { name := "negativeZeroFloatBits", type := .long, accessFlags := 26, slot := 5, constantValue := 0 }, { name := "negativeZeroDoubleBits", type := .long, accessFlags := 26, slot := 6, constantValue := 0 }, { name := "twoToTheDoubleScaleUp", type := .double, accessFlags := 8, slot := 7, constantValue := 0 }, { name := "twoToTheDoubleScaleDown", type := .double, accessFlags := 8, slot := 8, constantValue := 0 }, { name := "$assertionsDisabled", type := .boolean, accessFlags := 4120, slot := 9, constantValue := 0 }]
  methods := #[k20m0, k20m1]
  instanceTypes := #[]
  staticTypes := #[.double, .double, .double, .double, .double, .long, .long, .double, .double, .boolean]
  resolved := Array.replicate 460 none
  statics := none }

def pool21 : Array CpInfo := pool [(2, .class_ 4), (1, u "java/lang/Object"), (0, u "<init>"), (0, u "()V"), (1, .class_ 10), (1, u "java/lang/System"), (0, u "allowSecurityManager"), (0, u "I"), (16, u "cons"), (0, u "Ljava/io/Console;"), (77, .class_ 110), (1, u "java/lang/System$CallersHolder"), (43, u "initialErrStream"), (0, u "Ljava/io/PrintStream;"), (19, u "security"), (0, u "Ljava/lang/SecurityManager;"), (31, .class_ 209), (0, u "java/lang/System$1"), (7, u "props"), (0, u "Ljava/util/Properties;"), (2, u "lineSeparator"), (0, u "Ljava/lang/String;"), (96, .class_ 321), (1, u "java/lang/System$LoggerFinder"), (5, .class_ 328), (0, u "java/lang/System$Logger"), (67, u "err"), (2, u "out"), (91, u "notSupportedJnuEncoding"), (15, u "in"), (17, u "initialIn"), (0, u "Ljava/io/InputStream;"), (35, u "bootLayer"), (0, u "Ljava/lang/ModuleLayer;"), (99, .class_ 664), (0, u "java/lang/System$2"), (9, u "NEVER"), (2, u "MAYBE"), (49, u "arraycopy"), (0, u "(Ljava/lang/Object;ILjava/lang/Object;II)V"), (72, .class_ 802), (0, u "java/lang/System$Logger$Level")] 31

def k21m0 : Method := { name := "<init>", desc := "()V", sig := { parameters := [], returnType := none }, accessFlags := 2, code := none }
def k21m1 : Method := { name := "arraycopy", desc := "(Ljava/lang/Object;ILjava/lang/Object;II)V", sig := { parameters := [(.object "java/lang/Object"), .int, (.object "java/lang/Object"), .int, .int], returnType := none }, accessFlags := 265, code := none }
/-- java/lang/System -/
def k21 : Class := { plain "java/lang/System" (some 0) with
  accessFlags := 49
  interfaces := #[]
  cf := some (fileOf pool21 8 #[.nestMembers #[319, 327, 801, 108, 663, 208]] #[{ accessFlags := 2, nameIndex := 5, descriptorIndex := 6, attributes := #[] }, { accessFlags := 265, nameIndex := 727, descriptorIndex := 728, attributes := #[] }] 49 2 #[] #[{ accessFlags := 25, nameIndex := 507, descriptorIndex := 526, attributes := #[] }, { accessFlags := 25, nameIndex := 399, descriptorIndex := 155, attributes := #[] }, { accessFlags := 25, nameIndex := 396, descriptorIndex := 155, attributes := #[] }, { accessFlags := 10, nameIndex := 525, descriptorIndex := 526, attributes := #[] }, { accessFlags := 26, nameIndex := 674, descriptorIndex := 12, attributes := #[] }, { accessFlags := 26, nameIndex := 677, descriptorIndex := 12, attributes := #[] }, { accessFlags := 10, nameIndex := 11, descriptorIndex := 12, attributes := #[] }, { accessFlags := 74, nameIndex := 175, descriptorIndex := 176, attributes := #[] }, { accessFlags := 10, nameIndex := 491, descriptorIndex := 222, attributes := #[] }, { accessFlags := 74, nameIndex := 29, descriptorIndex := 30, attributes := #[] }, { accessFlags := 74, nameIndex := 154, descriptorIndex := 155, attributes := #[] }, { accessFlags := 10, nameIndex := 217, descriptorIndex := 218, attributes := #[] }, { accessFlags := 10, nameIndex := 221, descriptorIndex := 222, attributes := #[] }, { accessFlags := 8, nameIndex := 562, descriptorIndex := 563, attributes := #[] }])
  fields := #[{ name := "in", type := (.object "java/io/InputStream"), accessFlags := 25, slot := 0, constantValue := 0 }, { name := "out", type := (.object "java/io/PrintStream"), accessFlags := 25, slot := 1, constantValue := 0 }, { name := "err", type := (.object "java/io/PrintStream"), accessFlags := 25, slot := 2, constantValue := 0 }, { name := "initialIn", type := (.object "java/io/InputStream"), accessFlags := 10, slot := 3, constantValue := 0 }, { name := "NEVER", type := .int, accessFlags := 26, slot := 4, constantValue := 0 }, { name := "MAYBE", type := .int, accessFlags := 26, slot := 5, constantValue := 0 }, { name := "allowSecurityManager", type := .int, accessFlags := 10, slot := 6, constantValue := 0 }, { name := "security", type := (.object "java/lang/SecurityManager"), accessFlags := 74, slot := 7, constantValue := 0 }, { name := "notSupportedJnuEncoding", type := (.object "java/lang/String"), accessFlags := 10, slot := 8, constantValue := 0 }, { name := "cons", type := (.object "java/io/Console"), accessFlags := 74, slot := 9, constantValue := 0 }, { name := "initialErrStream", type := (.object "java/io/PrintStream"), accessFlags := 74, slot := 10, constantValue := 0 }, { name := "props", type := (.object "java/util/Properties"), accessFlags := 10, slot := 11, constantValue := 0 }, { name := "lineSeparator", type := (.object "java/lang/String"), accessFlags := 10, slot := 12, constantValue := 0 }, { name := "bootLayer", type := (.object "java/lang/ModuleLayer"), accessFlags := 8, slot := 13, constantValue := 0 }]
  methods := #[k21m0, k21m1]
  instanceTypes := #[]
  staticTypes := #[(.object "java/io/InputStream"), (.object "java/io/PrintStream"), (.object "java/io/PrintStream"), (.object "java/io/InputStream"), .int, .int, .int, (.object "java/lang/SecurityManager"), (.object "java/lang/String"), (.object "java/io/Console"), (.object "java/io/PrintStream"), (.object "java/util/Properties"), (.object "java/lang/String"), (.object "java/lang/ModuleLayer")]
  resolved := Array.replicate 834 none
  statics := none }

def pool22 : Array CpInfo := pool [(2, .class_ 4), (1, u "java/lang/Object"), (0, u "<init>"), (0, u "()V"), (35, .class_ 44), (1, u "java/util/Objects"), (0, u "requireNonNull"), (48, u "(Ljava/lang/Object;Ljava/lang/String;)Ljava/lang/Object;")] 89

def k22m0 : Method := { name := "<init>", desc := "()V", sig := { parameters := [], returnType := none }, accessFlags := 2, code := none }
def k22c1 : Code := { maxStack := 3, maxLocals := 2, code := jdk_31_method_11_code, exceptionTable := #[], attributes := #[] }
def k22m1 : Method := { name := "requireNonNull", desc := "(Ljava/lang/Object;Ljava/lang/String;)Ljava/lang/Object;", sig := { parameters := [(.object "java/lang/Object"), (.object "java/lang/String")], returnType := some (.object "java/lang/Object") }, accessFlags := 9, code := some k22c1 }
/-- java/util/Objects -/
def k22 : Class := { plain "java/util/Objects" (some 0) with
  accessFlags := 49
  interfaces := #[]
  cf := some (fileOf pool22 42 #[] #[{ accessFlags := 2, nameIndex := 5, descriptorIndex := 6, attributes := #[] }, { accessFlags := 9, nameIndex := 45, descriptorIndex := 94, attributes := #[] }] 49 2 #[] #[])
  fields := #[]
  methods := #[k22m0, k22m1]
  instanceTypes := #[]
  staticTypes := #[]
  resolved := Array.replicate 184 none
  statics := none }

def pool23 : Array CpInfo := pool [(9, u "<init>"), (6, .class_ 18), (1, u "java/lang/Object"), (0, u "()V"), (1, .class_ 23), (1, u "jdk/internal/util/ArraysSupport"), (0, u "LOG2_ARRAY_LONG_INDEX_SCALE"), (0, u "I"), (2, u "U"), (0, u "Ljdk/internal/misc/Unsafe;"), (8, u "BIG_ENDIAN"), (0, u "Z"), (8, u "LOG2_BYTE_BIT_SIZE"), (4, u "LOG2_ARRAY_INT_INDEX_SCALE"), (54, u "JLA"), (0, u "Ljdk/internal/access/JavaLangAccess;"), (11, u "LOG2_ARRAY_BOOLEAN_INDEX_SCALE"), (9, u "LOG2_ARRAY_BYTE_INDEX_SCALE"), (5, u "LOG2_ARRAY_CHAR_INDEX_SCALE"), (5, u "LOG2_ARRAY_SHORT_INDEX_SCALE"), (18, u "LOG2_ARRAY_FLOAT_INDEX_SCALE"), (24, u "LOG2_ARRAY_DOUBLE_INDEX_SCALE"), (89, u "T_BOOLEAN"), (2, u "T_CHAR"), (1, u "T_FLOAT"), (1, u "T_DOUBLE"), (1, u "T_BYTE"), (1, u "T_SHORT"), (1, u "T_INT"), (1, u "T_LONG"), (1, u "SOFT_MAX_ARRAY_LENGTH")] 83

def k23m0 : Method := { name := "<init>", desc := "()V", sig := { parameters := [], returnType := none }, accessFlags := 2, code := none }
/-- jdk/internal/util/ArraysSupport -/
def k23 : Class := { plain "jdk/internal/util/ArraysSupport" (some 0) with
  accessFlags := 33
  interfaces := #[]
  cf := some (fileOf pool23 21 #[] #[{ accessFlags := 2, nameIndex := 9, descriptorIndex := 19, attributes := #[] }] 33 16 #[] #[{ accessFlags := 24, nameIndex := 28, descriptorIndex := 29, attributes := #[] }, { accessFlags := 26, nameIndex := 38, descriptorIndex := 39, attributes := #[] }, { accessFlags := 25, nameIndex := 121, descriptorIndex := 25, attributes := #[] }, { accessFlags := 25, nameIndex := 131, descriptorIndex := 25, attributes := #[] }, { accessFlags := 25, nameIndex := 137, descriptorIndex := 25, attributes := #[] }, { accessFlags := 25, nameIndex := 143, descriptorIndex := 25, attributes := #[] }, { accessFlags := 25, nameIndex := 53, descriptorIndex := 25, attributes := #[] }, { accessFlags := 25, nameIndex := 24, descriptorIndex := 25, attributes := #[] }, { accessFlags := 25, nameIndex := 162, descriptorIndex := 25, attributes := #[] }, { accessFlags := 25, nameIndex := 187, descriptorIndex := 25, attributes := #[] }, { accessFlags := 26, nameIndex := 48, descriptorIndex := 25, attributes := #[] }, { accessFlags := 25, nameIndex := 277, descriptorIndex := 25, attributes := #[] }, { accessFlags := 25, nameIndex := 280, descriptorIndex := 25, attributes := #[] }, { accessFlags := 25, nameIndex := 282, descriptorIndex := 25, attributes := #[] }, { accessFlags := 25, nameIndex := 284, descriptorIndex := 25, attributes := #[] }, { accessFlags := 25, nameIndex := 286, descriptorIndex := 25, attributes := #[] }, { accessFlags := 25, nameIndex := 288, descriptorIndex := 25, attributes := #[] }, { accessFlags := 25, nameIndex := 290, descriptorIndex := 25, attributes := #[] }, { accessFlags := 25, nameIndex := 292, descriptorIndex := 25, attributes := #[] }, { accessFlags := 26, nameIndex := 108, descriptorIndex := 109, attributes := #[] }, { accessFlags := 25, nameIndex := 294, descriptorIndex := 25, attributes := #[] }])
  fields := #[{ name := "U", type := (.object "jdk/internal/misc/Unsafe"), accessFlags := 24, slot := 0, constantValue := 0 }, { name := "BIG_ENDIAN", type := .boolean, accessFlags := 26, slot := 1, constantValue := 0 }, { name := "LOG2_ARRAY_BOOLEAN_INDEX_SCALE", type := .int, accessFlags := 25, slot := 2, constantValue := 0 }, { name := "LOG2_ARRAY_BYTE_INDEX_SCALE", type := .int, accessFlags := 25, slot := 3, constantValue := 0 }, { name := "LOG2_ARRAY_CHAR_INDEX_SCALE", type := .int, accessFlags := 25, slot := 4, constantValue := 0 }, { name := "LOG2_ARRAY_SHORT_INDEX_SCALE", type := .int, accessFlags := 25, slot := 5, constantValue := 0 }, { name := "LOG2_ARRAY_INT_INDEX_SCALE", type := .int, accessFlags := 25, slot := 6, constantValue := 0 }, { name := "LOG2_ARRAY_LONG_INDEX_SCALE", type := .int, accessFlags := 25, slot := 7, constantValue := 0 }, { name := "LOG2_ARRAY_FLOAT_INDEX_SCALE", type := .int, accessFlags := 25, slot := 8, constantValue := 0 }, { name := "LOG2_ARRAY_DOUBLE_INDEX_SCALE", type := .int, accessFlags := 25, slot := 9, constantValue := 0 }, { name := "LOG2_BYTE_BIT_SIZE", type := .int, accessFlags := 26, slot := 10, constantValue := 0 }, { name := "T_BOOLEAN", type := .int, accessFlags := 25, slot := 11, constantValue := 0 }, { name := "T_CHAR", type := .int, accessFlags := 25, slot := 12, constantValue := 0 }, { name := "T_FLOAT", type := .int, accessFlags := 25, slot := 13, constantValue := 0 }, { name := "T_DOUBLE", type := .int, accessFlags := 25, slot := 14, constantValue := 0 }, { name := "T_BYTE", type := .int, accessFlags := 25, slot := 15, constantValue := 0 }, { name := "T_SHORT", type := .int, accessFlags := 25, slot := 16, constantValue := 0 }, { name := "T_INT", type := .int, accessFlags := 25, slot := 17, constantValue := 0 }, { name := "T_LONG", type := .int, accessFlags := 25, slot := 18, constantValue := 0 }, { name := "JLA", type := (.object "jdk/internal/access/JavaLangAccess"), accessFlags := 26, slot := 19, constantValue := 0 }, { name := "SOFT_MAX_ARRAY_LENGTH", type := .int, accessFlags := 25, slot := 20, constantValue := 0 }]
  methods := #[k23m0]
  instanceTypes := #[]
  staticTypes := #[(.object "jdk/internal/misc/Unsafe"), .boolean, .int, .int, .int, .int, .int, .int, .int, .int, .int, .int, .int, .int, .int, .int, .int, .int, .int, (.object "jdk/internal/access/JavaLangAccess"), .int]
  resolved := Array.replicate 378 none
  statics := none }

def pool24 : Array CpInfo := pool [(1, u "java/lang/Cloneable"), (0, .class_ 1), (0, u "java/lang/Object"), (0, .class_ 3)] 3

/-- java/lang/Cloneable -/
def k24 : Class := { plain "java/lang/Cloneable" (some 0) with
  accessFlags := 1537
  interfaces := #[]
  cf := some (fileOf pool24 2 #[] #[] 1537 4 #[] #[])
  fields := #[]
  methods := #[]
  instanceTypes := #[]
  staticTypes := #[]
  resolved := Array.replicate 8 none
  statics := none }

/-- the primitive byte -/
def k25 : Class := { plain "byte" none with kind := .primitive 'B', accessFlags := 0x411 }
/-- [B -/
def k26 : Class := { plain "[B" (some 0) with kind := .array 25 .byte, interfaces := #[24, 2], accessFlags := 1041 }

/-- the primitive char -/
def k27 : Class := { plain "char" none with kind := .primitive 'C', accessFlags := 0x411 }
/-- [C -/
def k28 : Class := { plain "[C" (some 0) with kind := .array 27 .char, interfaces := #[24, 2], accessFlags := 1041 }

/-- the primitive int -/
def k29 : Class := { plain "int" none with kind := .primitive 'I', accessFlags := 0x411 }
/-- [I -/
def k30 : Class := { plain "[I" (some 0) with kind := .array 29 .int, interfaces := #[24, 2], accessFlags := 1041 }

def heap : Heap := #[{ cls := 7, slots := #[.long 0, .int 1, .null, .int 0, .null, .int 0, .int 0], vm := .statics 7 },
  { cls := 14, slots := #[.int 0, .int 8, .int 0, .int 1], vm := .statics 14 },
  { cls := 17, slots := #[.null, .null, .null], vm := .statics 17 }]
def classes : Array Class := #[k0, k1, k2, k3, k4, k5, k6, k7, k8, k9, k10, k11, k12, k13, k14, k15, k16, k17, k18, k19, k20, k21, k22, k23, k24, k25, k26, k27, k28, k29, k30]
def interned : List (Array UInt16 × Addr) := []
def slotsUsed : Nat := 14
def theMethod : MethodId := ⟨1, 1⟩
def args0 : Array Value := #[.int 5, .int 5, .int 5, .int 5]
def aboutOver (below : List Frame) : State where
  vm := { classes := classes, interned := interned.toArray }
  heap := heap
  slotsUsed := slotsUsed
  threads := #[{ frames := .invoking theMethod args0 :: below }]
def below0 : List Frame := [.native { method := ⟨0, 0⟩, args := #[] }]
def about1 : State := aboutOver below0
def p0 : Program := .bare "" "" ""
def e0 : Env := launch0.env 0 0 0
theorem w_frames : about1.frames = Frame.invoking theMethod args0 :: below0 := rfl
set_option maxRecDepth 65536 in
theorem w_args : argsFit about1.vm theMethod args0 = true := by decide +kernel
set_option maxRecDepth 65536 in
theorem w_heap : heapFits about1 = true := by decide +kernel
set_option maxRecDepth 65536 in
theorem w_runnable : about1.curStatus? = some .runnable := by decide +kernel
set_option maxRecDepth 65536 in
theorem w_alone : about1.alone = true := by decide +kernel
set_option maxRecDepth 65536 in
theorem w_named : about1.methodNamed? x = some theMethod := by decide +kernel
set_option maxRecDepth 65536 in
theorem w_hears : about1.hears theMethod below0 = true := by decide +kernel
set_option maxRecDepth 65536 in
theorem w_ripe : about1.ripe theMethod args0 below0 = true := by decide +kernel
theorem w_running : about1.status = .running := rfl
set_option maxRecDepth 65536 in
theorem w_room : about1.hasRoom e0.platform room_1 = true :=
  launch0.hasRoom_least _ room_1 (by decide +kernel) (by decide +kernel) (by decide +kernel) (by decide +kernel) (by decide +kernel) (by decide +kernel)
theorem allAtoms_all (ts : List Jvm.Cond) (a : Array Jvm.Value) (st : Jvm.State) : (allAtoms ts).before a st = ts.all (fun c => c.before a st) := by
  induction ts with
  | nil => rfl
  | cons c t ih =>
    show (Jvm.Cond.and c (allAtoms t)).before a st = _
    rw [Jvm.Cond.before_and, ih, List.all_cons]
def words1 : List Jvm.Cond := Jvm.Cond.code x code maxLocals ret :: tables_1
/-- a 'code' word, met by the world's own term for the bytes: nothing is compared byte by byte -/
theorem code_word {y : MethodName} {bytes : ByteArray} {mx : Nat} {rt : Option FieldType} {a : Array Value} {s : State} {m : MethodId} {meth : Method} {c : Code} (h1 : s.methodNamed? y = some m) (h2 : s.vm.method? m = some meth) (h3 : meth.code = some c) (h4 : c.code = bytes)
    (h5 : (c.maxLocals == mx && c.exceptionTable.isEmpty && decide (c.maxStack ≤ mostOperands) && decide (meth.sig.returnType = rt) && !meth.locks && decide (parseMethodDescriptor y.desc = some meth.sig)) = true) : (Jvm.Cond.code y bytes mx rt).before a s = true := by
  simp only [Bool.and_eq_true, beq_iff_eq, Bool.not_eq_true', decide_eq_true_eq] at h5
  obtain ⟨⟨⟨⟨⟨g1, g2⟩, g3⟩, g4⟩, g5⟩, g6⟩ := h5
  simp [Cond.before, Cond.holds, Cond.value, h1, h2, h3, h4, g1, g2, g3, g4, g5, g6]
def isCode : Jvm.Cond → Bool
  | .code _ _ _ _ => true
  | _ => false
theorem all_split {L : List Jvm.Cond} {P : Jvm.Cond → Bool} (h1 : L.all (fun c => isCode c || P c) = true) (h2 : ∀ c ∈ L.filter isCode, P c = true) : L.all P = true := by
  refine List.all_eq_true.mpr fun c hc => ?_
  have h := List.all_eq_true.mp h1 c hc
  rcases Bool.eq_false_or_eq_true (isCode c) with hi | hi
  · exact h2 c (List.mem_filter.mpr ⟨hc, hi⟩)
  · simpa [hi] using h
set_option maxRecDepth 65536 in
theorem w_c0 : (Jvm.Cond.code x code maxLocals ret).before args0 about1 = true := code_word (m := ⟨1, 1⟩) (meth := k1m1) (c := k1c1) (by decide +kernel) rfl rfl rfl (by decide +kernel)
set_option maxRecDepth 65536 in
theorem w_c1 : (Jvm.Cond.code ({ cls := "com/example/ply3/ply3/TextWriterToStringPinLaw", name := "str", desc := "(II)Ljava/lang/String;" } : Jvm.MethodName) method_4_code (3 : Nat) (Option.some (Jvm.ClassFile.FieldType.object "java/lang/String"))).before args0 about1 = true := code_word (m := ⟨1, 3⟩) (meth := k1m3) (c := k1c3) (by decide +kernel) rfl rfl rfl (by decide +kernel)
set_option maxRecDepth 65536 in
theorem w_c2 : (Jvm.Cond.code ({ cls := "java/lang/String", name := "<init>", desc := "([C)V" } : Jvm.MethodName) jdk_42_method_3_code (2 : Nat) (Option.none : Option Jvm.ClassFile.FieldType)).before args0 about1 = true := code_word (m := ⟨7, 1⟩) (meth := k7m1) (c := k7c1) (by decide +kernel) rfl rfl rfl (by decide +kernel)
set_option maxRecDepth 65536 in
theorem w_c3 : (Jvm.Cond.code ({ cls := "java/lang/String", name := "<init>", desc := "([CIILjava/lang/Void;)V" } : Jvm.MethodName) jdk_42_method_149_code (6 : Nat) (Option.none : Option Jvm.ClassFile.FieldType)).before args0 about1 = true := code_word (m := ⟨7, 6⟩) (meth := k7m6) (c := k7c6) (by decide +kernel) rfl rfl rfl (by decide +kernel)
set_option maxRecDepth 65536 in
theorem w_c4 : (Jvm.Cond.code ({ cls := "java/lang/Object", name := "<init>", desc := "()V" } : Jvm.MethodName) object_method_1_code (1 : Nat) (Option.none : Option Jvm.ClassFile.FieldType)).before args0 about1 = true := code_word (m := ⟨0, 0⟩) (meth := k0m0) (c := k0c0) (by decide +kernel) rfl rfl rfl (by decide +kernel)
set_option maxRecDepth 65536 in
theorem w_c5 : (Jvm.Cond.code ({ cls := "com/example/ply3/ply3/TextWriterToStringPinLaw", name := "pair", desc := "(I)[C" } : Jvm.MethodName) method_3_code (2 : Nat) (Option.some (Jvm.ClassFile.FieldType.array Jvm.ClassFile.FieldType.char))).before args0 about1 = true := code_word (m := ⟨1, 2⟩) (meth := k1m2) (c := k1c2) (by decide +kernel) rfl rfl rfl (by decide +kernel)
set_option maxRecDepth 65536 in
theorem w_c6 : (Jvm.Cond.code ({ cls := "com/example/ply3/ply3/TextWriter", name := "<init>", desc := "()V" } : Jvm.MethodName) prog_33_method_1_code (1 : Nat) (Option.none : Option Jvm.ClassFile.FieldType)).before args0 about1 = true := code_word (m := ⟨13, 0⟩) (meth := k13m0) (c := k13c0) (by decide +kernel) rfl rfl rfl (by decide +kernel)
set_option maxRecDepth 65536 in
theorem w_c7 : (Jvm.Cond.code ({ cls := "java/io/Writer", name := "<init>", desc := "()V" } : Jvm.MethodName) jdk_2052_method_2_code (1 : Nat) (Option.none : Option Jvm.ClassFile.FieldType)).before args0 about1 = true := code_word (m := ⟨12, 0⟩) (meth := k12m0) (c := k12c0) (by decide +kernel) rfl rfl rfl (by decide +kernel)
set_option maxRecDepth 65536 in
theorem w_c8 : (Jvm.Cond.code ({ cls := "com/example/ply3/ply3/TextWriterToStringPinLaw", name := "step", desc := "(Lcom/example/ply3/ply3/TextWriter;[CIIIILjava/lang/String;[C)I" } : Jvm.MethodName) method_5_code (10 : Nat) (Option.some Jvm.ClassFile.FieldType.int)).before args0 about1 = true := code_word (m := ⟨1, 4⟩) (meth := k1m4) (c := k1c4) (by decide +kernel) rfl rfl rfl (by decide +kernel)
set_option maxRecDepth 65536 in
theorem w_c9 : (Jvm.Cond.code ({ cls := "com/example/ply3/ply3/TextWriter", name := "toString", desc := "()Ljava/lang/String;" } : Jvm.MethodName) prog_33_method_8_code (1 : Nat) (Option.some (Jvm.ClassFile.FieldType.object "java/lang/String"))).before args0 about1 = true := code_word (m := ⟨13, 4⟩) (meth := k13m4) (c := k13c4) (by decide +kernel) rfl rfl rfl (by decide +kernel)
set_option maxRecDepth 65536 in
theorem w_c10 : (Jvm.Cond.code ({ cls := "java/lang/String", name := "length", desc := "()I" } : Jvm.MethodName) jdk_42_method_54_code (1 : Nat) (Option.some Jvm.ClassFile.FieldType.int)).before args0 about1 = true := code_word (m := ⟨7, 3⟩) (meth := k7m3) (c := k7c3) (by decide +kernel) rfl rfl rfl (by decide +kernel)
set_option maxRecDepth 65536 in
theorem w_c11 : (Jvm.Cond.code ({ cls := "java/lang/String", name := "coder", desc := "()B" } : Jvm.MethodName) jdk_42_method_152_code (1 : Nat) (Option.some Jvm.ClassFile.FieldType.byte)).before args0 about1 = true := code_word (m := ⟨7, 8⟩) (meth := k7m8) (c := k7c8) (by decide +kernel) rfl rfl rfl (by decide +kernel)
set_option maxRecDepth 65536 in
theorem w_c12 : (Jvm.Cond.code ({ cls := "com/example/ply3/ply3/TextWriterToStringPinLaw", name := "at", desc := "(Ljava/lang/String;[CII)Z" } : Jvm.MethodName) method_6_code (4 : Nat) (Option.some Jvm.ClassFile.FieldType.boolean)).before args0 about1 = true := code_word (m := ⟨1, 5⟩) (meth := k1m5) (c := k1c5) (by decide +kernel) rfl rfl rfl (by decide +kernel)
set_option maxRecDepth 65536 in
theorem w_c13 : (Jvm.Cond.code ({ cls := "java/lang/StringUTF16", name := "compress", desc := "([CII)[B" } : Jvm.MethodName) jdk_52_method_16_code (6 : Nat) (Option.some (Jvm.ClassFile.FieldType.array Jvm.ClassFile.FieldType.byte))).before args0 about1 = true := code_word (m := ⟨14, 8⟩) (meth := k14m8) (c := k14c8) (by decide +kernel) rfl rfl rfl (by decide +kernel)
set_option maxRecDepth 65536 in
theorem w_c14 : (Jvm.Cond.code ({ cls := "java/lang/StringUTF16", name := "compress", desc := "([CI[BII)I" } : Jvm.MethodName) jdk_52_method_21_code (7 : Nat) (Option.some Jvm.ClassFile.FieldType.int)).before args0 about1 = true := code_word (m := ⟨14, 9⟩) (meth := k14m9) (c := k14c9) (by decide +kernel) rfl rfl rfl (by decide +kernel)
set_option maxRecDepth 65536 in
theorem w_c15 : (Jvm.Cond.code ({ cls := "java/lang/StringUTF16", name := "coderFromArrayLen", desc := "([BI)B" } : Jvm.MethodName) jdk_52_method_15_code (2 : Nat) (Option.some Jvm.ClassFile.FieldType.byte)).before args0 about1 = true := code_word (m := ⟨14, 7⟩) (meth := k14m7) (c := k14c7) (by decide +kernel) rfl rfl rfl (by decide +kernel)
set_option maxRecDepth 65536 in
theorem w_c16 : (Jvm.Cond.code ({ cls := "com/example/ply3/ply3/TextWriter", name := "write", desc := "([CII)V" } : Jvm.MethodName) prog_33_method_3_code (4 : Nat) (Option.none : Option Jvm.ClassFile.FieldType)).before args0 about1 = true := code_word (m := ⟨13, 2⟩) (meth := k13m2) (c := k13c2) (by decide +kernel) rfl rfl rfl (by decide +kernel)
set_option maxRecDepth 65536 in
theorem w_c17 : (Jvm.Cond.code ({ cls := "com/example/ply3/ply3/TextWriter", name := "builder", desc := "()Ljava/lang/StringBuilder;" } : Jvm.MethodName) prog_33_method_9_code (1 : Nat) (Option.some (Jvm.ClassFile.FieldType.object "java/lang/StringBuilder"))).before args0 about1 = true := code_word (m := ⟨13, 5⟩) (meth := k13m5) (c := k13c5) (by decide +kernel) rfl rfl rfl (by decide +kernel)
set_option maxRecDepth 65536 in
theorem w_c18 : (Jvm.Cond.code ({ cls := "java/lang/StringBuilder", name := "<init>", desc := "()V" } : Jvm.MethodName) jdk_67_method_1_code (1 : Nat) (Option.none : Option Jvm.ClassFile.FieldType)).before args0 about1 = true := code_word (m := ⟨16, 0⟩) (meth := k16m0) (c := k16c0) (by decide +kernel) rfl rfl rfl (by decide +kernel)
set_option maxRecDepth 65536 in
theorem w_c19 : (Jvm.Cond.code ({ cls := "java/lang/AbstractStringBuilder", name := "<init>", desc := "(I)V" } : Jvm.MethodName) jdk_68_method_2_code (2 : Nat) (Option.none : Option Jvm.ClassFile.FieldType)).before args0 about1 = true := code_word (m := ⟨15, 1⟩) (meth := k15m1) (c := k15c1) (by decide +kernel) rfl rfl rfl (by decide +kernel)
set_option maxRecDepth 65536 in
theorem w_c20 : (Jvm.Cond.code ({ cls := "java/lang/StringBuilder", name := "append", desc := "([CII)Ljava/lang/StringBuilder;" } : Jvm.MethodName) jdk_67_method_12_code (4 : Nat) (Option.some (Jvm.ClassFile.FieldType.object "java/lang/StringBuilder"))).before args0 about1 = true := code_word (m := ⟨16, 2⟩) (meth := k16m2) (c := k16c2) (by decide +kernel) rfl rfl rfl (by decide +kernel)
set_option maxRecDepth 65536 in
theorem w_c21 : (Jvm.Cond.code ({ cls := "java/lang/AbstractStringBuilder", name := "append", desc := "([CII)Ljava/lang/AbstractStringBuilder;" } : Jvm.MethodName) jdk_68_method_29_code (5 : Nat) (Option.some (Jvm.ClassFile.FieldType.object "java/lang/AbstractStringBuilder"))).before args0 about1 = true := code_word (m := ⟨15, 6⟩) (meth := k15m6) (c := k15c6) (by decide +kernel) rfl rfl rfl (by decide +kernel)
set_option maxRecDepth 65536 in
theorem w_c22 : (Jvm.Cond.code ({ cls := "jdk/internal/util/Preconditions", name := "checkFromToIndex", desc := "(IIILjava/util/function/BiFunction;)I" } : Jvm.MethodName) jdk_41_method_12_code (4 : Nat) (Option.some Jvm.ClassFile.FieldType.int)).before args0 about1 = true := code_word (m := ⟨17, 2⟩) (meth := k17m2) (c := k17c2) (by decide +kernel) rfl rfl rfl (by decide +kernel)
set_option maxRecDepth 65536 in
theorem w_c23 : (Jvm.Cond.code ({ cls := "java/lang/AbstractStringBuilder", name := "ensureCapacityInternal", desc := "(I)V" } : Jvm.MethodName) jdk_68_method_9_code (3 : Nat) (Option.none : Option Jvm.ClassFile.FieldType)).before args0 about1 = true := code_word (m := ⟨15, 3⟩) (meth := k15m3) (c := k15c3) (by decide +kernel) rfl rfl rfl (by decide +kernel)
set_option maxRecDepth 65536 in
theorem w_c24 : (Jvm.Cond.code ({ cls := "java/lang/AbstractStringBuilder", name := "appendChars", desc := "([CII)V" } : Jvm.MethodName) jdk_68_method_74_code (9 : Nat) (Option.none : Option Jvm.ClassFile.FieldType)).before args0 about1 = true := code_word (m := ⟨15, 12⟩) (meth := k15m12) (c := k15c12) (by decide +kernel) rfl rfl rfl (by decide +kernel)
set_option maxRecDepth 65536 in
theorem w_c25 : (Jvm.Cond.code ({ cls := "java/lang/AbstractStringBuilder", name := "isLatin1", desc := "()Z" } : Jvm.MethodName) jdk_68_method_68_code (1 : Nat) (Option.some Jvm.ClassFile.FieldType.boolean)).before args0 about1 = true := code_word (m := ⟨15, 9⟩) (meth := k15m9) (c := k15c9) (by decide +kernel) rfl rfl rfl (by decide +kernel)
set_option maxRecDepth 65536 in
theorem w_c26 : (Jvm.Cond.code ({ cls := "java/lang/StringLatin1", name := "canEncode", desc := "(C)Z" } : Jvm.MethodName) jdk_43_method_3_code (1 : Nat) (Option.some Jvm.ClassFile.FieldType.boolean)).before args0 about1 = true := code_word (m := ⟨18, 2⟩) (meth := k18m2) (c := k18c2) (by decide +kernel) rfl rfl rfl (by decide +kernel)
set_option maxRecDepth 65536 in
theorem w_c27 : (Jvm.Cond.code ({ cls := "java/lang/StringBuilder", name := "toString", desc := "()Ljava/lang/String;" } : Jvm.MethodName) jdk_67_method_42_code (1 : Nat) (Option.some (Jvm.ClassFile.FieldType.object "java/lang/String"))).before args0 about1 = true := code_word (m := ⟨16, 4⟩) (meth := k16m4) (c := k16c4) (by decide +kernel) rfl rfl rfl (by decide +kernel)
set_option maxRecDepth 65536 in
theorem w_c28 : (Jvm.Cond.code ({ cls := "java/lang/String", name := "<init>", desc := "(Ljava/lang/StringBuilder;)V" } : Jvm.MethodName) jdk_42_method_53_code (2 : Nat) (Option.none : Option Jvm.ClassFile.FieldType)).before args0 about1 = true := code_word (m := ⟨7, 2⟩) (meth := k7m2) (c := k7c2) (by decide +kernel) rfl rfl rfl (by decide +kernel)
set_option maxRecDepth 65536 in
theorem w_c29 : (Jvm.Cond.code ({ cls := "java/lang/String", name := "<init>", desc := "(Ljava/lang/AbstractStringBuilder;Ljava/lang/Void;)V" } : Jvm.MethodName) jdk_42_method_150_code (5 : Nat) (Option.none : Option Jvm.ClassFile.FieldType)).before args0 about1 = true := code_word (m := ⟨7, 7⟩) (meth := k7m7) (c := k7c7) (by decide +kernel) rfl rfl rfl (by decide +kernel)
set_option maxRecDepth 65536 in
theorem w_c30 : (Jvm.Cond.code ({ cls := "java/lang/AbstractStringBuilder", name := "getValue", desc := "()[B" } : Jvm.MethodName) jdk_68_method_64_code (1 : Nat) (Option.some (Jvm.ClassFile.FieldType.array Jvm.ClassFile.FieldType.byte))).before args0 about1 = true := code_word (m := ⟨15, 8⟩) (meth := k15m8) (c := k15c8) (by decide +kernel) rfl rfl rfl (by decide +kernel)
set_option maxRecDepth 65536 in
theorem w_c31 : (Jvm.Cond.code ({ cls := "java/lang/StringBuilder", name := "length", desc := "()I" } : Jvm.MethodName) jdk_67_method_93_code (1 : Nat) (Option.some Jvm.ClassFile.FieldType.int)).before args0 about1 = true := code_word (m := ⟨16, 5⟩) (meth := k16m5) (c := k16c5) (by decide +kernel) rfl rfl rfl (by decide +kernel)
set_option maxRecDepth 65536 in
theorem w_c32 : (Jvm.Cond.code ({ cls := "java/lang/AbstractStringBuilder", name := "length", desc := "()I" } : Jvm.MethodName) jdk_68_method_6_code (1 : Nat) (Option.some Jvm.ClassFile.FieldType.int)).before args0 about1 = true := code_word (m := ⟨15, 2⟩) (meth := k15m2) (c := k15c2) (by decide +kernel) rfl rfl rfl (by decide +kernel)
set_option maxRecDepth 65536 in
theorem w_c33 : (Jvm.Cond.code ({ cls := "java/util/Arrays", name := "copyOfRange", desc := "([BII)[B" } : Jvm.MethodName) jdk_65_method_132_code (3 : Nat) (Option.some (Jvm.ClassFile.FieldType.array Jvm.ClassFile.FieldType.byte))).before args0 about1 = true := code_word (m := ⟨19, 2⟩) (meth := k19m2) (c := k19c2) (by decide +kernel) rfl rfl rfl (by decide +kernel)
set_option maxRecDepth 65536 in
theorem w_c34 : (Jvm.Cond.code ({ cls := "java/util/Arrays", name := "copyOfRangeByte", desc := "([BII)[B" } : Jvm.MethodName) jdk_65_method_133_code (5 : Nat) (Option.some (Jvm.ClassFile.FieldType.array Jvm.ClassFile.FieldType.byte))).before args0 about1 = true := code_word (m := ⟨19, 3⟩) (meth := k19m3) (c := k19c3) (by decide +kernel) rfl rfl rfl (by decide +kernel)
set_option maxRecDepth 65536 in
theorem w_c35 : (Jvm.Cond.code ({ cls := "java/util/Arrays", name := "checkLength", desc := "(II)V" } : Jvm.MethodName) jdk_65_method_131_code (2 : Nat) (Option.none : Option Jvm.ClassFile.FieldType)).before args0 about1 = true := code_word (m := ⟨19, 1⟩) (meth := k19m1) (c := k19c1) (by decide +kernel) rfl rfl rfl (by decide +kernel)
set_option maxRecDepth 65536 in
theorem w_c36 : (Jvm.Cond.code ({ cls := "java/lang/Math", name := "min", desc := "(II)I" } : Jvm.MethodName) jdk_29_method_69_code (2 : Nat) (Option.some Jvm.ClassFile.FieldType.int)).before args0 about1 = true := code_word (m := ⟨20, 1⟩) (meth := k20m1) (c := k20c1) (by decide +kernel) rfl rfl rfl (by decide +kernel)
set_option maxRecDepth 65536 in
theorem w_c37 : (Jvm.Cond.code ({ cls := "java/lang/String", name := "charAt", desc := "(I)C" } : Jvm.MethodName) jdk_42_method_56_code (2 : Nat) (Option.some Jvm.ClassFile.FieldType.char)).before args0 about1 = true := code_word (m := ⟨7, 4⟩) (meth := k7m4) (c := k7c4) (by decide +kernel) rfl rfl rfl (by decide +kernel)
set_option maxRecDepth 65536 in
theorem w_c38 : (Jvm.Cond.code ({ cls := "java/lang/String", name := "isLatin1", desc := "()Z" } : Jvm.MethodName) jdk_42_method_154_code (1 : Nat) (Option.some Jvm.ClassFile.FieldType.boolean)).before args0 about1 = true := code_word (m := ⟨7, 9⟩) (meth := k7m9) (c := k7c9) (by decide +kernel) rfl rfl rfl (by decide +kernel)
set_option maxRecDepth 65536 in
theorem w_c39 : (Jvm.Cond.code ({ cls := "java/lang/StringLatin1", name := "charAt", desc := "([BI)C" } : Jvm.MethodName) jdk_43_method_2_code (2 : Nat) (Option.some Jvm.ClassFile.FieldType.char)).before args0 about1 = true := code_word (m := ⟨18, 1⟩) (meth := k18m1) (c := k18c1) (by decide +kernel) rfl rfl rfl (by decide +kernel)
set_option maxRecDepth 65536 in
theorem w_c40 : (Jvm.Cond.code ({ cls := "java/lang/String", name := "checkIndex", desc := "(II)V" } : Jvm.MethodName) jdk_42_method_155_code (2 : Nat) (Option.none : Option Jvm.ClassFile.FieldType)).before args0 about1 = true := code_word (m := ⟨7, 10⟩) (meth := k7m10) (c := k7c10) (by decide +kernel) rfl rfl rfl (by decide +kernel)
set_option maxRecDepth 65536 in
theorem w_c41 : (Jvm.Cond.code ({ cls := "jdk/internal/util/Preconditions", name := "checkIndex", desc := "(IILjava/util/function/BiFunction;)I" } : Jvm.MethodName) jdk_41_method_11_code (3 : Nat) (Option.some Jvm.ClassFile.FieldType.int)).before args0 about1 = true := code_word (m := ⟨17, 1⟩) (meth := k17m1) (c := k17c1) (by decide +kernel) rfl rfl rfl (by decide +kernel)
set_option maxRecDepth 65536 in
theorem w_c42 : (Jvm.Cond.code ({ cls := "java/lang/StringUTF16", name := "toBytes", desc := "([CII)[B" } : Jvm.MethodName) jdk_52_method_14_code (5 : Nat) (Option.some (Jvm.ClassFile.FieldType.array Jvm.ClassFile.FieldType.byte))).before args0 about1 = true := code_word (m := ⟨14, 6⟩) (meth := k14m6) (c := k14c6) (by decide +kernel) rfl rfl rfl (by decide +kernel)
set_option maxRecDepth 65536 in
theorem w_c43 : (Jvm.Cond.code ({ cls := "java/lang/StringUTF16", name := "newBytesFor", desc := "(I)[B" } : Jvm.MethodName) jdk_52_method_2_code (1 : Nat) (Option.some (Jvm.ClassFile.FieldType.array Jvm.ClassFile.FieldType.byte))).before args0 about1 = true := code_word (m := ⟨14, 1⟩) (meth := k14m1) (c := k14c1) (by decide +kernel) rfl rfl rfl (by decide +kernel)
set_option maxRecDepth 65536 in
theorem w_c44 : (Jvm.Cond.code ({ cls := "java/lang/StringUTF16", name := "newBytesLength", desc := "(I)I" } : Jvm.MethodName) jdk_52_method_3_code (1 : Nat) (Option.some Jvm.ClassFile.FieldType.int)).before args0 about1 = true := code_word (m := ⟨14, 2⟩) (meth := k14m2) (c := k14c2) (by decide +kernel) rfl rfl rfl (by decide +kernel)
set_option maxRecDepth 65536 in
theorem w_c45 : (Jvm.Cond.code ({ cls := "java/lang/StringUTF16", name := "putChar", desc := "([BII)V" } : Jvm.MethodName) jdk_52_method_4_code (3 : Nat) (Option.none : Option Jvm.ClassFile.FieldType)).before args0 about1 = true := code_word (m := ⟨14, 3⟩) (meth := k14m3) (c := k14c3) (by decide +kernel) rfl rfl rfl (by decide +kernel)
set_option maxRecDepth 65536 in
theorem w_c46 : (Jvm.Cond.code ({ cls := "java/lang/StringUTF16", name := "getChar", desc := "([BI)C" } : Jvm.MethodName) jdk_52_method_5_code (2 : Nat) (Option.some Jvm.ClassFile.FieldType.char)).before args0 about1 = true := code_word (m := ⟨14, 4⟩) (meth := k14m4) (c := k14c4) (by decide +kernel) rfl rfl rfl (by decide +kernel)
set_option maxRecDepth 65536 in
theorem w_c47 : (Jvm.Cond.code ({ cls := "com/example/ply3/ply3/TextWriter", name := "write", desc := "(Ljava/lang/String;)V" } : Jvm.MethodName) prog_33_method_4_code (2 : Nat) (Option.none : Option Jvm.ClassFile.FieldType)).before args0 about1 = true := code_word (m := ⟨13, 3⟩) (meth := k13m3) (c := k13c3) (by decide +kernel) rfl rfl rfl (by decide +kernel)
set_option maxRecDepth 65536 in
theorem w_c48 : (Jvm.Cond.code ({ cls := "java/util/Objects", name := "requireNonNull", desc := "(Ljava/lang/Object;Ljava/lang/String;)Ljava/lang/Object;" } : Jvm.MethodName) jdk_31_method_11_code (2 : Nat) (Option.some (Jvm.ClassFile.FieldType.object "java/lang/Object"))).before args0 about1 = true := code_word (m := ⟨22, 1⟩) (meth := k22m1) (c := k22c1) (by decide +kernel) rfl rfl rfl (by decide +kernel)
set_option maxRecDepth 65536 in
theorem w_c49 : (Jvm.Cond.code ({ cls := "java/lang/StringBuilder", name := "append", desc := "(Ljava/lang/String;)Ljava/lang/StringBuilder;" } : Jvm.MethodName) jdk_67_method_7_code (2 : Nat) (Option.some (Jvm.ClassFile.FieldType.object "java/lang/StringBuilder"))).before args0 about1 = true := code_word (m := ⟨16, 1⟩) (meth := k16m1) (c := k16c1) (by decide +kernel) rfl rfl rfl (by decide +kernel)
set_option maxRecDepth 65536 in
theorem w_c50 : (Jvm.Cond.code ({ cls := "java/lang/AbstractStringBuilder", name := "append", desc := "(Ljava/lang/String;)Ljava/lang/AbstractStringBuilder;" } : Jvm.MethodName) jdk_68_method_22_code (3 : Nat) (Option.some (Jvm.ClassFile.FieldType.object "java/lang/AbstractStringBuilder"))).before args0 about1 = true := code_word (m := ⟨15, 5⟩) (meth := k15m5) (c := k15c5) (by decide +kernel) rfl rfl rfl (by decide +kernel)
set_option maxRecDepth 65536 in
theorem w_c51 : (Jvm.Cond.code ({ cls := "java/lang/AbstractStringBuilder", name := "putStringAt", desc := "(ILjava/lang/String;)V" } : Jvm.MethodName) jdk_68_method_73_code (3 : Nat) (Option.none : Option Jvm.ClassFile.FieldType)).before args0 about1 = true := code_word (m := ⟨15, 11⟩) (meth := k15m11) (c := k15c11) (by decide +kernel) rfl rfl rfl (by decide +kernel)
set_option maxRecDepth 65536 in
theorem w_c52 : (Jvm.Cond.code ({ cls := "java/lang/AbstractStringBuilder", name := "inflateIfNeededFor", desc := "(Ljava/lang/String;)V" } : Jvm.MethodName) jdk_68_method_71_code (2 : Nat) (Option.none : Option Jvm.ClassFile.FieldType)).before args0 about1 = true := code_word (m := ⟨15, 10⟩) (meth := k15m10) (c := k15c10) (by decide +kernel) rfl rfl rfl (by decide +kernel)
set_option maxRecDepth 65536 in
theorem w_c53 : (Jvm.Cond.code ({ cls := "java/lang/AbstractStringBuilder", name := "inflate", desc := "()V" } : Jvm.MethodName) jdk_68_method_11_code (2 : Nat) (Option.none : Option Jvm.ClassFile.FieldType)).before args0 about1 = true := code_word (m := ⟨15, 4⟩) (meth := k15m4) (c := k15c4) (by decide +kernel) rfl rfl rfl (by decide +kernel)
set_option maxRecDepth 65536 in
theorem w_c54 : (Jvm.Cond.code ({ cls := "java/lang/StringLatin1", name := "inflate", desc := "([BI[BII)V" } : Jvm.MethodName) jdk_43_method_50_code (5 : Nat) (Option.none : Option Jvm.ClassFile.FieldType)).before args0 about1 = true := code_word (m := ⟨18, 3⟩) (meth := k18m3) (c := k18c3) (by decide +kernel) rfl rfl rfl (by decide +kernel)
set_option maxRecDepth 65536 in
theorem w_c55 : (Jvm.Cond.code ({ cls := "java/lang/StringUTF16", name := "inflate", desc := "([BI[BII)V" } : Jvm.MethodName) jdk_52_method_86_code (6 : Nat) (Option.none : Option Jvm.ClassFile.FieldType)).before args0 about1 = true := code_word (m := ⟨14, 14⟩) (meth := k14m14) (c := k14c14) (by decide +kernel) rfl rfl rfl (by decide +kernel)
set_option maxRecDepth 65536 in
theorem w_c56 : (Jvm.Cond.code ({ cls := "java/lang/StringUTF16", name := "checkBoundsOffCount", desc := "(II[B)V" } : Jvm.MethodName) jdk_52_method_94_code (3 : Nat) (Option.none : Option Jvm.ClassFile.FieldType)).before args0 about1 = true := code_word (m := ⟨14, 17⟩) (meth := k14m17) (c := k14c17) (by decide +kernel) rfl rfl rfl (by decide +kernel)
set_option maxRecDepth 65536 in
theorem w_c57 : (Jvm.Cond.code ({ cls := "java/lang/StringUTF16", name := "length", desc := "([B)I" } : Jvm.MethodName) jdk_52_method_6_code (1 : Nat) (Option.some Jvm.ClassFile.FieldType.int)).before args0 about1 = true := code_word (m := ⟨14, 5⟩) (meth := k14m5) (c := k14c5) (by decide +kernel) rfl rfl rfl (by decide +kernel)
set_option maxRecDepth 65536 in
theorem w_c58 : (Jvm.Cond.code ({ cls := "java/lang/String", name := "checkBoundsOffCount", desc := "(III)I" } : Jvm.MethodName) jdk_42_method_157_code (3 : Nat) (Option.some Jvm.ClassFile.FieldType.int)).before args0 about1 = true := code_word (m := ⟨7, 11⟩) (meth := k7m11) (c := k7c11) (by decide +kernel) rfl rfl rfl (by decide +kernel)
set_option maxRecDepth 65536 in
theorem w_c59 : (Jvm.Cond.code ({ cls := "jdk/internal/util/Preconditions", name := "checkFromIndexSize", desc := "(IIILjava/util/function/BiFunction;)I" } : Jvm.MethodName) jdk_41_method_13_code (4 : Nat) (Option.some Jvm.ClassFile.FieldType.int)).before args0 about1 = true := code_word (m := ⟨17, 3⟩) (meth := k17m3) (c := k17c3) (by decide +kernel) rfl rfl rfl (by decide +kernel)
set_option maxRecDepth 65536 in
theorem w_c60 : (Jvm.Cond.code ({ cls := "java/lang/String", name := "getBytes", desc := "([BIB)V" } : Jvm.MethodName) jdk_42_method_147_code (4 : Nat) (Option.none : Option Jvm.ClassFile.FieldType)).before args0 about1 = true := code_word (m := ⟨7, 5⟩) (meth := k7m5) (c := k7c5) (by decide +kernel) rfl rfl rfl (by decide +kernel)
set_option maxRecDepth 65536 in
theorem w_c61 : (Jvm.Cond.code ({ cls := "java/lang/StringUTF16", name := "putCharsSB", desc := "([BI[CII)V" } : Jvm.MethodName) jdk_52_method_72_code (5 : Nat) (Option.none : Option Jvm.ClassFile.FieldType)).before args0 about1 = true := code_word (m := ⟨14, 12⟩) (meth := k14m12) (c := k14c12) (by decide +kernel) rfl rfl rfl (by decide +kernel)
set_option maxRecDepth 65536 in
theorem w_c62 : (Jvm.Cond.code ({ cls := "java/lang/StringUTF16", name := "checkBoundsBeginEnd", desc := "(II[B)V" } : Jvm.MethodName) jdk_52_method_93_code (3 : Nat) (Option.none : Option Jvm.ClassFile.FieldType)).before args0 about1 = true := code_word (m := ⟨14, 16⟩) (meth := k14m16) (c := k14c16) (by decide +kernel) rfl rfl rfl (by decide +kernel)
set_option maxRecDepth 65536 in
theorem w_c63 : (Jvm.Cond.code ({ cls := "java/lang/String", name := "checkBoundsBeginEnd", desc := "(III)V" } : Jvm.MethodName) jdk_42_method_158_code (3 : Nat) (Option.none : Option Jvm.ClassFile.FieldType)).before args0 about1 = true := code_word (m := ⟨7, 12⟩) (meth := k7m12) (c := k7c12) (by decide +kernel) rfl rfl rfl (by decide +kernel)
set_option maxRecDepth 65536 in
theorem w_c64 : (Jvm.Cond.code ({ cls := "java/lang/StringUTF16", name := "putChars", desc := "([BI[CII)V" } : Jvm.MethodName) jdk_52_method_68_code (5 : Nat) (Option.none : Option Jvm.ClassFile.FieldType)).before args0 about1 = true := code_word (m := ⟨14, 10⟩) (meth := k14m10) (c := k14c10) (by decide +kernel) rfl rfl rfl (by decide +kernel)
set_option maxRecDepth 65536 in
theorem w_c65 : (Jvm.Cond.code ({ cls := "java/lang/StringUTF16", name := "charAt", desc := "([BI)C" } : Jvm.MethodName) jdk_52_method_83_code (2 : Nat) (Option.some Jvm.ClassFile.FieldType.char)).before args0 about1 = true := code_word (m := ⟨14, 13⟩) (meth := k14m13) (c := k14c13) (by decide +kernel) rfl rfl rfl (by decide +kernel)
set_option maxRecDepth 65536 in
theorem w_c66 : (Jvm.Cond.code ({ cls := "java/lang/StringUTF16", name := "checkIndex", desc := "(I[B)V" } : Jvm.MethodName) jdk_52_method_91_code (2 : Nat) (Option.none : Option Jvm.ClassFile.FieldType)).before args0 about1 = true := code_word (m := ⟨14, 15⟩) (meth := k14m15) (c := k14c15) (by decide +kernel) rfl rfl rfl (by decide +kernel)
set_option maxRecDepth 65536 in
theorem w_c67 : (Jvm.Cond.code ({ cls := "com/example/ply3/ply3/TextWriter", name := "write", desc := "(I)V" } : Jvm.MethodName) prog_33_method_2_code (2 : Nat) (Option.none : Option Jvm.ClassFile.FieldType)).before args0 about1 = true := code_word (m := ⟨13, 1⟩) (meth := k13m1) (c := k13c1) (by decide +kernel) rfl rfl rfl (by decide +kernel)
set_option maxRecDepth 65536 in
theorem w_c68 : (Jvm.Cond.code ({ cls := "java/lang/StringBuilder", name := "append", desc := "(C)Ljava/lang/StringBuilder;" } : Jvm.MethodName) jdk_67_method_14_code (2 : Nat) (Option.some (Jvm.ClassFile.FieldType.object "java/lang/StringBuilder"))).before args0 about1 = true := code_word (m := ⟨16, 3⟩) (meth := k16m3) (c := k16c3) (by decide +kernel) rfl rfl rfl (by decide +kernel)
set_option maxRecDepth 65536 in
theorem w_c69 : (Jvm.Cond.code ({ cls := "java/lang/AbstractStringBuilder", name := "append", desc := "(C)Ljava/lang/AbstractStringBuilder;" } : Jvm.MethodName) jdk_68_method_31_code (2 : Nat) (Option.some (Jvm.ClassFile.FieldType.object "java/lang/AbstractStringBuilder"))).before args0 about1 = true := code_word (m := ⟨15, 7⟩) (meth := k15m7) (c := k15c7) (by decide +kernel) rfl rfl rfl (by decide +kernel)
set_option maxRecDepth 65536 in
theorem w_c70 : (Jvm.Cond.code ({ cls := "java/lang/StringUTF16", name := "putCharSB", desc := "([BII)V" } : Jvm.MethodName) jdk_52_method_71_code (3 : Nat) (Option.none : Option Jvm.ClassFile.FieldType)).before args0 about1 = true := code_word (m := ⟨14, 11⟩) (meth := k14m11) (c := k14c11) (by decide +kernel) rfl rfl rfl (by decide +kernel)
def codes1 : List Jvm.Cond := [Jvm.Cond.code x code maxLocals ret, Jvm.Cond.code ({ cls := "com/example/ply3/ply3/TextWriterToStringPinLaw", name := "str", desc := "(II)Ljava/lang/String;" } : Jvm.MethodName) method_4_code (3 : Nat) (Option.some (Jvm.ClassFile.FieldType.object "java/lang/String")), Jvm.Cond.code ({ cls := "java/lang/String", name := "<init>", desc := "([C)V" } : Jvm.MethodName) jdk_42_method_3_code (2 : Nat) (Option.none : Option Jvm.ClassFile.FieldType), Jvm.Cond.code ({ cls := "java/lang/String", name := "<init>", desc := "([CIILjava/lang/Void;)V" } : Jvm.MethodName) jdk_42_method_149_code (6 : Nat) (Option.none : Option Jvm.ClassFile.FieldType), Jvm.Cond.code ({ cls := "java/lang/Object", name := "<init>", desc := "()V" } : Jvm.MethodName) object_method_1_code (1 : Nat) (Option.none : Option Jvm.ClassFile.FieldType), Jvm.Cond.code ({ cls := "com/example/ply3/ply3/TextWriterToStringPinLaw", name := "pair", desc := "(I)[C" } : Jvm.MethodName) method_3_code (2 : Nat) (Option.some (Jvm.ClassFile.FieldType.array Jvm.ClassFile.FieldType.char)), Jvm.Cond.code ({ cls := "com/example/ply3/ply3/TextWriter", name := "<init>", desc := "()V" } : Jvm.MethodName) prog_33_method_1_code (1 : Nat) (Option.none : Option Jvm.ClassFile.FieldType), Jvm.Cond.code ({ cls := "java/io/Writer", name := "<init>", desc := "()V" } : Jvm.MethodName) jdk_2052_method_2_code (1 : Nat) (Option.none : Option Jvm.ClassFile.FieldType), Jvm.Cond.code ({ cls := "com/example/ply3/ply3/TextWriterToStringPinLaw", name := "step", desc := "(Lcom/example/ply3/ply3/TextWriter;[CIIIILjava/lang/String;[C)I" } : Jvm.MethodName) method_5_code (10 : Nat) (Option.some Jvm.ClassFile.FieldType.int), Jvm.Cond.code ({ cls := "com/example/ply3/ply3/TextWriter", name := "toString", desc := "()Ljava/lang/String;" } : Jvm.MethodName) prog_33_method_8_code (1 : Nat) (Option.some (Jvm.ClassFile.FieldType.object "java/lang/String")), Jvm.Cond.code ({ cls := "java/lang/String", name := "length", desc := "()I" } : Jvm.MethodName) jdk_42_method_54_code (1 : Nat) (Option.some Jvm.ClassFile.FieldType.int), Jvm.Cond.code ({ cls := "java/lang/String", name := "coder", desc := "()B" } : Jvm.MethodName) jdk_42_method_152_code (1 : Nat) (Option.some Jvm.ClassFile.FieldType.byte), Jvm.Cond.code ({ cls := "com/example/ply3/ply3/TextWriterToStringPinLaw", name := "at", desc := "(Ljava/lang/String;[CII)Z" } : Jvm.MethodName) method_6_code (4 : Nat) (Option.some Jvm.ClassFile.FieldType.boolean), Jvm.Cond.code ({ cls := "java/lang/StringUTF16", name := "compress", desc := "([CII)[B" } : Jvm.MethodName) jdk_52_method_16_code (6 : Nat) (Option.some (Jvm.ClassFile.FieldType.array Jvm.ClassFile.FieldType.byte)), Jvm.Cond.code ({ cls := "java/lang/StringUTF16", name := "compress", desc := "([CI[BII)I" } : Jvm.MethodName) jdk_52_method_21_code (7 : Nat) (Option.some Jvm.ClassFile.FieldType.int), Jvm.Cond.code ({ cls := "java/lang/StringUTF16", name := "coderFromArrayLen", desc := "([BI)B" } : Jvm.MethodName) jdk_52_method_15_code (2 : Nat) (Option.some Jvm.ClassFile.FieldType.byte), Jvm.Cond.code ({ cls := "com/example/ply3/ply3/TextWriter", name := "write", desc := "([CII)V" } : Jvm.MethodName) prog_33_method_3_code (4 : Nat) (Option.none : Option Jvm.ClassFile.FieldType), Jvm.Cond.code ({ cls := "com/example/ply3/ply3/TextWriter", name := "builder", desc := "()Ljava/lang/StringBuilder;" } : Jvm.MethodName) prog_33_method_9_code (1 : Nat) (Option.some (Jvm.ClassFile.FieldType.object "java/lang/StringBuilder")), Jvm.Cond.code ({ cls := "java/lang/StringBuilder", name := "<init>", desc := "()V" } : Jvm.MethodName) jdk_67_method_1_code (1 : Nat) (Option.none : Option Jvm.ClassFile.FieldType), Jvm.Cond.code ({ cls := "java/lang/AbstractStringBuilder", name := "<init>", desc := "(I)V" } : Jvm.MethodName) jdk_68_method_2_code (2 : Nat) (Option.none : Option Jvm.ClassFile.FieldType), Jvm.Cond.code ({ cls := "java/lang/StringBuilder", name := "append", desc := "([CII)Ljava/lang/StringBuilder;" } : Jvm.MethodName) jdk_67_method_12_code (4 : Nat) (Option.some (Jvm.ClassFile.FieldType.object "java/lang/StringBuilder")), Jvm.Cond.code ({ cls := "java/lang/AbstractStringBuilder", name := "append", desc := "([CII)Ljava/lang/AbstractStringBuilder;" } : Jvm.MethodName) jdk_68_method_29_code (5 : Nat) (Option.some (Jvm.ClassFile.FieldType.object "java/lang/AbstractStringBuilder")), Jvm.Cond.code ({ cls := "jdk/internal/util/Preconditions", name := "checkFromToIndex", desc := "(IIILjava/util/function/BiFunction;)I" } : Jvm.MethodName) jdk_41_method_12_code (4 : Nat) (Option.some Jvm.ClassFile.FieldType.int), Jvm.Cond.code ({ cls := "java/lang/AbstractStringBuilder", name := "ensureCapacityInternal", desc := "(I)V" } : Jvm.MethodName) jdk_68_method_9_code (3 : Nat) (Option.none : Option Jvm.ClassFile.FieldType), Jvm.Cond.code ({ cls := "java/lang/AbstractStringBuilder", name := "appendChars", desc := "([CII)V" } : Jvm.MethodName) jdk_68_method_74_code (9 : Nat) (Option.none : Option Jvm.ClassFile.FieldType), Jvm.Cond.code ({ cls := "java/lang/AbstractStringBuilder", name := "isLatin1", desc := "()Z" } : Jvm.MethodName) jdk_68_method_68_code (1 : Nat) (Option.some Jvm.ClassFile.FieldType.boolean), Jvm.Cond.code ({ cls := "java/lang/StringLatin1", name := "canEncode", desc := "(C)Z" } : Jvm.MethodName) jdk_43_method_3_code (1 : Nat) (Option.some Jvm.ClassFile.FieldType.boolean), Jvm.Cond.code ({ cls := "java/lang/StringBuilder", name := "toString", desc := "()Ljava/lang/String;" } : Jvm.MethodName) jdk_67_method_42_code (1 : Nat) (Option.some (Jvm.ClassFile.FieldType.object "java/lang/String")), Jvm.Cond.code ({ cls := "java/lang/String", name := "<init>", desc := "(Ljava/lang/StringBuilder;)V" } : Jvm.MethodName) jdk_42_method_53_code (2 : Nat) (Option.none : Option Jvm.ClassFile.FieldType), Jvm.Cond.code ({ cls := "java/lang/String", name := "<init>", desc := "(Ljava/lang/AbstractStringBuilder;Ljava/lang/Void;)V" } : Jvm.MethodName) jdk_42_method_150_code (5 : Nat) (Option.none : Option Jvm.ClassFile.FieldType), Jvm.Cond.code ({ cls := "java/lang/AbstractStringBuilder", name := "getValue", desc := "()[B" } : Jvm.MethodName) jdk_68_method_64_code (1 : Nat) (Option.some (Jvm.ClassFile.FieldType.array Jvm.ClassFile.FieldType.byte)), Jvm.Cond.code ({ cls := "java/lang/StringBuilder", name := "length", desc := "()I" } : Jvm.MethodName) jdk_67_method_93_code (1 : Nat) (Option.some Jvm.ClassFile.FieldType.int), Jvm.Cond.code ({ cls := "java/lang/AbstractStringBuilder", name := "length", desc := "()I" } : Jvm.MethodName) jdk_68_method_6_code (1 : Nat) (Option.some Jvm.ClassFile.FieldType.int), Jvm.Cond.code ({ cls := "java/util/Arrays", name := "copyOfRange", desc := "([BII)[B" } : Jvm.MethodName) jdk_65_method_132_code (3 : Nat) (Option.some (Jvm.ClassFile.FieldType.array Jvm.ClassFile.FieldType.byte)), Jvm.Cond.code ({ cls := "java/util/Arrays", name := "copyOfRangeByte", desc := "([BII)[B" } : Jvm.MethodName) jdk_65_method_133_code (5 : Nat) (Option.some (Jvm.ClassFile.FieldType.array Jvm.ClassFile.FieldType.byte)), Jvm.Cond.code ({ cls := "java/util/Arrays", name := "checkLength", desc := "(II)V" } : Jvm.MethodName) jdk_65_method_131_code (2 : Nat) (Option.none : Option Jvm.ClassFile.FieldType), Jvm.Cond.code ({ cls := "java/lang/Math", name := "min", desc := "(II)I" } : Jvm.MethodName) jdk_29_method_69_code (2 : Nat) (Option.some Jvm.ClassFile.FieldType.int), Jvm.Cond.code ({ cls := "java/lang/String", name := "charAt", desc := "(I)C" } : Jvm.MethodName) jdk_42_method_56_code (2 : Nat) (Option.some Jvm.ClassFile.FieldType.char), Jvm.Cond.code ({ cls := "java/lang/String", name := "isLatin1", desc := "()Z" } : Jvm.MethodName) jdk_42_method_154_code (1 : Nat) (Option.some Jvm.ClassFile.FieldType.boolean), Jvm.Cond.code ({ cls := "java/lang/StringLatin1", name := "charAt", desc := "([BI)C" } : Jvm.MethodName) jdk_43_method_2_code (2 : Nat) (Option.some Jvm.ClassFile.FieldType.char), Jvm.Cond.code ({ cls := "java/lang/String", name := "checkIndex", desc := "(II)V" } : Jvm.MethodName) jdk_42_method_155_code (2 : Nat) (Option.none : Option Jvm.ClassFile.FieldType), Jvm.Cond.code ({ cls := "jdk/internal/util/Preconditions", name := "checkIndex", desc := "(IILjava/util/function/BiFunction;)I" } : Jvm.MethodName) jdk_41_method_11_code (3 : Nat) (Option.some Jvm.ClassFile.FieldType.int), Jvm.Cond.code ({ cls := "java/lang/StringUTF16", name := "toBytes", desc := "([CII)[B" } : Jvm.MethodName) jdk_52_method_14_code (5 : Nat) (Option.some (Jvm.ClassFile.FieldType.array Jvm.ClassFile.FieldType.byte)), Jvm.Cond.code ({ cls := "java/lang/StringUTF16", name := "newBytesFor", desc := "(I)[B" } : Jvm.MethodName) jdk_52_method_2_code (1 : Nat) (Option.some (Jvm.ClassFile.FieldType.array Jvm.ClassFile.FieldType.byte)), Jvm.Cond.code ({ cls := "java/lang/StringUTF16", name := "newBytesLength", desc := "(I)I" } : Jvm.MethodName) jdk_52_method_3_code (1 : Nat) (Option.some Jvm.ClassFile.FieldType.int), Jvm.Cond.code ({ cls := "java/lang/StringUTF16", name := "putChar", desc := "([BII)V" } : Jvm.MethodName) jdk_52_method_4_code (3 : Nat) (Option.none : Option Jvm.ClassFile.FieldType), Jvm.Cond.code ({ cls := "java/lang/StringUTF16", name := "getChar", desc := "([BI)C" } : Jvm.MethodName) jdk_52_method_5_code (2 : Nat) (Option.some Jvm.ClassFile.FieldType.char), Jvm.Cond.code ({ cls := "com/example/ply3/ply3/TextWriter", name := "write", desc := "(Ljava/lang/String;)V" } : Jvm.MethodName) prog_33_method_4_code (2 : Nat) (Option.none : Option Jvm.ClassFile.FieldType), Jvm.Cond.code ({ cls := "java/util/Objects", name := "requireNonNull", desc := "(Ljava/lang/Object;Ljava/lang/String;)Ljava/lang/Object;" } : Jvm.MethodName) jdk_31_method_11_code (2 : Nat) (Option.some (Jvm.ClassFile.FieldType.object "java/lang/Object")), Jvm.Cond.code ({ cls := "java/lang/StringBuilder", name := "append", desc := "(Ljava/lang/String;)Ljava/lang/StringBuilder;" } : Jvm.MethodName) jdk_67_method_7_code (2 : Nat) (Option.some (Jvm.ClassFile.FieldType.object "java/lang/StringBuilder")), Jvm.Cond.code ({ cls := "java/lang/AbstractStringBuilder", name := "append", desc := "(Ljava/lang/String;)Ljava/lang/AbstractStringBuilder;" } : Jvm.MethodName) jdk_68_method_22_code (3 : Nat) (Option.some (Jvm.ClassFile.FieldType.object "java/lang/AbstractStringBuilder")), Jvm.Cond.code ({ cls := "java/lang/AbstractStringBuilder", name := "putStringAt", desc := "(ILjava/lang/String;)V" } : Jvm.MethodName) jdk_68_method_73_code (3 : Nat) (Option.none : Option Jvm.ClassFile.FieldType), Jvm.Cond.code ({ cls := "java/lang/AbstractStringBuilder", name := "inflateIfNeededFor", desc := "(Ljava/lang/String;)V" } : Jvm.MethodName) jdk_68_method_71_code (2 : Nat) (Option.none : Option Jvm.ClassFile.FieldType), Jvm.Cond.code ({ cls := "java/lang/AbstractStringBuilder", name := "inflate", desc := "()V" } : Jvm.MethodName) jdk_68_method_11_code (2 : Nat) (Option.none : Option Jvm.ClassFile.FieldType), Jvm.Cond.code ({ cls := "java/lang/StringLatin1", name := "inflate", desc := "([BI[BII)V" } : Jvm.MethodName) jdk_43_method_50_code (5 : Nat) (Option.none : Option Jvm.ClassFile.FieldType), Jvm.Cond.code ({ cls := "java/lang/StringUTF16", name := "inflate", desc := "([BI[BII)V" } : Jvm.MethodName) jdk_52_method_86_code (6 : Nat) (Option.none : Option Jvm.ClassFile.FieldType), Jvm.Cond.code ({ cls := "java/lang/StringUTF16", name := "checkBoundsOffCount", desc := "(II[B)V" } : Jvm.MethodName) jdk_52_method_94_code (3 : Nat) (Option.none : Option Jvm.ClassFile.FieldType), Jvm.Cond.code ({ cls := "java/lang/StringUTF16", name := "length", desc := "([B)I" } : Jvm.MethodName) jdk_52_method_6_code (1 : Nat) (Option.some Jvm.ClassFile.FieldType.int), Jvm.Cond.code ({ cls := "java/lang/String", name := "checkBoundsOffCount", desc := "(III)I" } : Jvm.MethodName) jdk_42_method_157_code (3 : Nat) (Option.some Jvm.ClassFile.FieldType.int), Jvm.Cond.code ({ cls := "jdk/internal/util/Preconditions", name := "checkFromIndexSize", desc := "(IIILjava/util/function/BiFunction;)I" } : Jvm.MethodName) jdk_41_method_13_code (4 : Nat) (Option.some Jvm.ClassFile.FieldType.int), Jvm.Cond.code ({ cls := "java/lang/String", name := "getBytes", desc := "([BIB)V" } : Jvm.MethodName) jdk_42_method_147_code (4 : Nat) (Option.none : Option Jvm.ClassFile.FieldType), Jvm.Cond.code ({ cls := "java/lang/StringUTF16", name := "putCharsSB", desc := "([BI[CII)V" } : Jvm.MethodName) jdk_52_method_72_code (5 : Nat) (Option.none : Option Jvm.ClassFile.FieldType), Jvm.Cond.code ({ cls := "java/lang/StringUTF16", name := "checkBoundsBeginEnd", desc := "(II[B)V" } : Jvm.MethodName) jdk_52_method_93_code (3 : Nat) (Option.none : Option Jvm.ClassFile.FieldType), Jvm.Cond.code ({ cls := "java/lang/String", name := "checkBoundsBeginEnd", desc := "(III)V" } : Jvm.MethodName) jdk_42_method_158_code (3 : Nat) (Option.none : Option Jvm.ClassFile.FieldType), Jvm.Cond.code ({ cls := "java/lang/StringUTF16", name := "putChars", desc := "([BI[CII)V" } : Jvm.MethodName) jdk_52_method_68_code (5 : Nat) (Option.none : Option Jvm.ClassFile.FieldType), Jvm.Cond.code ({ cls := "java/lang/StringUTF16", name := "charAt", desc := "([BI)C" } : Jvm.MethodName) jdk_52_method_83_code (2 : Nat) (Option.some Jvm.ClassFile.FieldType.char), Jvm.Cond.code ({ cls := "java/lang/StringUTF16", name := "checkIndex", desc := "(I[B)V" } : Jvm.MethodName) jdk_52_method_91_code (2 : Nat) (Option.none : Option Jvm.ClassFile.FieldType), Jvm.Cond.code ({ cls := "com/example/ply3/ply3/TextWriter", name := "write", desc := "(I)V" } : Jvm.MethodName) prog_33_method_2_code (2 : Nat) (Option.none : Option Jvm.ClassFile.FieldType), Jvm.Cond.code ({ cls := "java/lang/StringBuilder", name := "append", desc := "(C)Ljava/lang/StringBuilder;" } : Jvm.MethodName) jdk_67_method_14_code (2 : Nat) (Option.some (Jvm.ClassFile.FieldType.object "java/lang/StringBuilder")), Jvm.Cond.code ({ cls := "java/lang/AbstractStringBuilder", name := "append", desc := "(C)Ljava/lang/AbstractStringBuilder;" } : Jvm.MethodName) jdk_68_method_31_code (2 : Nat) (Option.some (Jvm.ClassFile.FieldType.object "java/lang/AbstractStringBuilder")), Jvm.Cond.code ({ cls := "java/lang/StringUTF16", name := "putCharSB", desc := "([BII)V" } : Jvm.MethodName) jdk_52_method_71_code (3 : Nat) (Option.none : Option Jvm.ClassFile.FieldType)]
set_option maxRecDepth 65536 in
theorem codes_eq : words1.filter isCode = codes1 := rfl
theorem w_codes : ∀ c ∈ words1.filter isCode, c.before args0 about1 = true := by
  rw [codes_eq]
  intro c hc
  simp only [codes1, List.mem_cons, List.not_mem_nil, or_false] at hc
  rcases hc with rfl | rfl | rfl | rfl | rfl | rfl | rfl | rfl | rfl | rfl | rfl | rfl | rfl | rfl | rfl | rfl | rfl | rfl | rfl | rfl | rfl | rfl | rfl | rfl | rfl | rfl | rfl | rfl | rfl | rfl | rfl | rfl | rfl | rfl | rfl | rfl | rfl | rfl | rfl | rfl | rfl | rfl | rfl | rfl | rfl | rfl | rfl | rfl | rfl | rfl | rfl | rfl | rfl | rfl | rfl | rfl | rfl | rfl | rfl | rfl | rfl | rfl | rfl | rfl | rfl | rfl | rfl | rfl | rfl | rfl | rfl
  · exact w_c0
  · exact w_c1
  · exact w_c2
  · exact w_c3
  · exact w_c4
  · exact w_c5
  · exact w_c6
  · exact w_c7
  · exact w_c8
  · exact w_c9
  · exact w_c10
  · exact w_c11
  · exact w_c12
  · exact w_c13
  · exact w_c14
  · exact w_c15
  · exact w_c16
  · exact w_c17
  · exact w_c18
  · exact w_c19
  · exact w_c20
  · exact w_c21
  · exact w_c22
  · exact w_c23
  · exact w_c24
  · exact w_c25
  · exact w_c26
  · exact w_c27
  · exact w_c28
  · exact w_c29
  · exact w_c30
  · exact w_c31
  · exact w_c32
  · exact w_c33
  · exact w_c34
  · exact w_c35
  · exact w_c36
  · exact w_c37
  · exact w_c38
  · exact w_c39
  · exact w_c40
  · exact w_c41
  · exact w_c42
  · exact w_c43
  · exact w_c44
  · exact w_c45
  · exact w_c46
  · exact w_c47
  · exact w_c48
  · exact w_c49
  · exact w_c50
  · exact w_c51
  · exact w_c52
  · exact w_c53
  · exact w_c54
  · exact w_c55
  · exact w_c56
  · exact w_c57
  · exact w_c58
  · exact w_c59
  · exact w_c60
  · exact w_c61
  · exact w_c62
  · exact w_c63
  · exact w_c64
  · exact w_c65
  · exact w_c66
  · exact w_c67
  · exact w_c68
  · exact w_c69
  · exact w_c70
set_option maxRecDepth 65536 in
theorem w_t1 : (words1.take 24).all (fun c => isCode c || c.before args0 about1) = true := by decide +kernel
set_option maxRecDepth 65536 in
theorem w_t2 : ((words1.drop 24).take 24).all (fun c => isCode c || c.before args0 about1) = true := by decide +kernel
set_option maxRecDepth 65536 in
theorem w_t3 : (((words1.drop 24).drop 24).take 24).all (fun c => isCode c || c.before args0 about1) = true := by decide +kernel
set_option maxRecDepth 65536 in
theorem w_t4 : ((((words1.drop 24).drop 24).drop 24).take 24).all (fun c => isCode c || c.before args0 about1) = true := by decide +kernel
set_option maxRecDepth 65536 in
theorem w_t5 : (((((words1.drop 24).drop 24).drop 24).drop 24).take 24).all (fun c => isCode c || c.before args0 about1) = true := by decide +kernel
set_option maxRecDepth 65536 in
theorem w_t6 : ((((((words1.drop 24).drop 24).drop 24).drop 24).drop 24).take 24).all (fun c => isCode c || c.before args0 about1) = true := by decide +kernel
set_option maxRecDepth 65536 in
theorem w_t7 : (((((((words1.drop 24).drop 24).drop 24).drop 24).drop 24).drop 24).take 24).all (fun c => isCode c || c.before args0 about1) = true := by decide +kernel
set_option maxRecDepth 65536 in
theorem w_t8 : ((((((((words1.drop 24).drop 24).drop 24).drop 24).drop 24).drop 24).drop 24).take 24).all (fun c => isCode c || c.before args0 about1) = true := by decide +kernel
set_option maxRecDepth 65536 in
theorem w_t9 : (((((((((words1.drop 24).drop 24).drop 24).drop 24).drop 24).drop 24).drop 24).drop 24).take 24).all (fun c => isCode c || c.before args0 about1) = true := by decide +kernel
set_option maxRecDepth 65536 in
theorem w_t10 : ((((((((((words1.drop 24).drop 24).drop 24).drop 24).drop 24).drop 24).drop 24).drop 24).drop 24).take 24).all (fun c => isCode c || c.before args0 about1) = true := by decide +kernel
set_option maxRecDepth 65536 in
theorem w_t11 : (((((((((((words1.drop 24).drop 24).drop 24).drop 24).drop 24).drop 24).drop 24).drop 24).drop 24).drop 24).take 24).all (fun c => isCode c || c.before args0 about1) = true := by decide +kernel
set_option maxRecDepth 65536 in
theorem w_t12 : ((((((((((((words1.drop 24).drop 24).drop 24).drop 24).drop 24).drop 24).drop 24).drop 24).drop 24).drop 24).drop 24).take 24).all (fun c => isCode c || c.before args0 about1) = true := by decide +kernel
set_option maxRecDepth 65536 in
theorem w_t13 : (((((((((((((words1.drop 24).drop 24).drop 24).drop 24).drop 24).drop 24).drop 24).drop 24).drop 24).drop 24).drop 24).drop 24).take 24).all (fun c => isCode c || c.before args0 about1) = true := by decide +kernel
set_option maxRecDepth 65536 in
theorem w_t14 : (((((((((((((words1.drop 24).drop 24).drop 24).drop 24).drop 24).drop 24).drop 24).drop 24).drop 24).drop 24).drop 24).drop 24).drop 24).all (fun c => isCode c || c.before args0 about1) = true := by decide +kernel
theorem w_tables : (allAtoms (Jvm.Cond.code x code maxLocals ret :: tables_1)).before args0 about1 = true := by
  rw [allAtoms_all]
  show words1.all (fun c => c.before args0 about1) = true
  refine all_split ?_ w_codes
  rw [← List.take_append_drop 24 words1, List.all_append, w_t1, ← List.take_append_drop 24 (words1.drop 24), List.all_append, w_t2, ← List.take_append_drop 24 ((words1.drop 24).drop 24), List.all_append, w_t3, ← List.take_append_drop 24 (((words1.drop 24).drop 24).drop 24), List.all_append, w_t4, ← List.take_append_drop 24 ((((words1.drop 24).drop 24).drop 24).drop 24), List.all_append, w_t5, ← List.take_append_drop 24 (((((words1.drop 24).drop 24).drop 24).drop 24).drop 24), List.all_append, w_t6, ← List.take_append_drop 24 ((((((words1.drop 24).drop 24).drop 24).drop 24).drop 24).drop 24), List.all_append, w_t7, ← List.take_append_drop 24 (((((((words1.drop 24).drop 24).drop 24).drop 24).drop 24).drop 24).drop 24), List.all_append, w_t8, ← List.take_append_drop 24 ((((((((words1.drop 24).drop 24).drop 24).drop 24).drop 24).drop 24).drop 24).drop 24), List.all_append, w_t9, ← List.take_append_drop 24 (((((((((words1.drop 24).drop 24).drop 24).drop 24).drop 24).drop 24).drop 24).drop 24).drop 24), List.all_append, w_t10, ← List.take_append_drop 24 ((((((((((words1.drop 24).drop 24).drop 24).drop 24).drop 24).drop 24).drop 24).drop 24).drop 24).drop 24), List.all_append, w_t11, ← List.take_append_drop 24 (((((((((((words1.drop 24).drop 24).drop 24).drop 24).drop 24).drop 24).drop 24).drop 24).drop 24).drop 24).drop 24), List.all_append, w_t12, ← List.take_append_drop 24 ((((((((((((words1.drop 24).drop 24).drop 24).drop 24).drop 24).drop 24).drop 24).drop 24).drop 24).drop 24).drop 24).drop 24), List.all_append, w_t13, w_t14]
  rfl
set_option maxRecDepth 65536 in
theorem w_rest : rest_1_c.before args0 about1 = true := by decide +kernel
set_option maxRecDepth 65536 in
theorem w_case : (Jvm.Cond.and given_1 narrow_1).before args0 about1 = true := by decide +kernel
set_option maxRecDepth 65536 in
theorem w_consts : constsHeld consts_1 about1 := Jvm.Lit.constsHeldB_iff.mp (by decide +kernel)
theorem w_applies : (headSpec (Jvm.Cond.code x code maxLocals ret :: tables_1) room_1).applies x e0.platform about1 = true :=
  (Spec.applies_iff w_frames).mpr ⟨w_running, w_runnable, w_alone, w_named, w_hears, w_ripe, w_room, w_tables⟩
theorem atStart : AtStart classFile x code maxLocals ret World_1 tables_1 room_1 Calls_1 rest_1 Pre_1 launch0 p0 e0 about1 theMethod args0 below0 :=
  ⟨lists_1, trivial, launch0.admits_env _ _ _, launch0.least_env, fairChoices_fair.cas, fairChoices_fair.clock, w_frames, w_args, w_heap, w_applies, ⟨w_consts, trivial⟩, w_rest, w_case⟩
end start1
theorem witness_1 : WitnessClaimed_1 := ⟨start1.p0, start1.e0, start1.about1, start1.theMethod, start1.args0, start1.below0, start1.atStart⟩
end Jvm.Pilot.@@N@@
