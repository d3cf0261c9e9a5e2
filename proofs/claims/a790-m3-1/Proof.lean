import JvmDerived
import JvmDerived.Pilot.@@N@@Statement
import JvmDerived.Pilot.@@N@@Code
set_option linter.unusedVariables false
set_option linter.unusedSimpArgs false
@@BLOCK:LamKit.lean.txt@@
namespace Jvm.Ow
open Sem ClassFile Op Lib Bundle Jvm.Stand Jvm.Free Jvm.LawKit Jvm.RoadKit
abbrev Po : Type := Option Value → Heap → List Addr → Prop
theorem slRead {Z : State} {vm : Vm} {h : Heap} {q : Jvm.Free.SB.SQ} {u : Array UInt16} {vs : List Value} {z : Int32} (hal : Z.vm.Alike vm) (F : SlB (Wst Z vm h) q u) (hlat : u.all (· < 256) = true) (ev : u.toList.map (fun x => Value.int (Jvm.Lit.byteI x)) = vs) (hz : ¬ z < 0) (hl : z.toNatClampNeg = vs.length) :
    Exa Z h q.sa "java/lang/String" ∧ Fld Z h q.sa "java/lang/String" "coder" "B" (.int 0) ∧ Fld Z h q.sa "java/lang/String" "value" "[B" (.ref q.sd) ∧ Arv Z h q.sd q.SA.cls .byte z vs (.int 0) := by
  have F0 : SlB (Wst Z Z.vm h) q u := F.carry hal.symm F.ha F.hd
  obtain ⟨cS, ⟨L, hf, hc⟩, ⟨kS, k1, -, k3⟩, -, hb⟩ := F0
  obtain ⟨cv, kv, iv, fv, av⟩ := L.ffV
  obtain ⟨cc, kc, ic, fc, ac⟩ := L.ffC
  obtain ⟨-, hkn, hob, -, -, stv, stc, slv, slc, hd, har, hkA, -, -, -, hft⟩ := L
  subst hc ev
  have hsl : q.SA.slots = u.map fun x => Value.int (Jvm.Lit.byteI x) := hb.trans (Jvm.Free.SBG.stringBytes_lat hlat)
  have hg : ∀ j, j < q.SA.slots.size → q.SA.slots[j]? = some ((u.toList.map fun x => Value.int (Jvm.Lit.byteI x)).getD j (.int 0)) := fun j hj => by
    have hj' : j < u.size := by rw [hsl, Array.size_map] at hj; exact hj
    rw [hsl]; simp [hj']
  refine ⟨⟨q.sC, kS, F.ha, hf, k1, hob, fun _ => k3⟩, ⟨q.sC, cc, kc, ic, q.fSC, F.ha, fc, stc, hkn, hob, ac, slc⟩, ⟨q.sC, cv, kv, iv, q.fSV, F.ha, fv, stv, hkn, hob, av, slv⟩, q.SA, ⟨hd, har, hkA⟩, rfl, by rw [hl, hsl]; simp, hz, hg, fun j hj => ?_⟩
  have e1 := hft j hj
  rw [Array.getD_eq_getD_getElem?, hg j hj] at e1
  exact e1
theorem wsHeap (T : State) (cB cS : ClassId) (kS : Class) (fv fc : Field) (u : Array UInt16) : (withString T cB cS kS fv fc u).heap = (T.heap.push (bytesOf cB u)).push (stringAt cS kS fv fc u T.heap.size) := by rw [withString_eq]; rfl
theorem extRefl (h : Heap) : Ext h h := ⟨Nat.le_refl _, fun _ _ q => q⟩
theorem atomsAt {Z s : State} {a0 args : Array Value} (hZ : Z.Warmed39 s.vm) (wS : ∀ d ∈ Bundle.stringAtoms, d.before a0 Z = true) : ∀ d ∈ Bundle.stringAtoms, d.before args s = true := fun d hd => by
  have q := wS d hd
  simp only [Bundle.stringAtoms, List.mem_cons, List.not_mem_nil, or_false] at hd
  rcases hd with rfl | rfl | rfl | rfl | rfl | rfl | rfl
  case inr.inr.inl => exact mvA hZ q
  all_goals exact mv hZ q
section Defs
variable (p : Program) (l : Launch) (e : Env) (R : Room) (s : State) (m : MethodId) (args : Array Value) (below : List Frame) (meth : Method) (c : Code) (Z : State) (EL : List (String × Nat)) (n0 : Nat) (own : String)
def SafeL (vm : Vm) (h : Heap) (S : List Addr) : Prop := ∀ x ∈ S, x < h.size ∧ Safe Z EL vm h x
def Don (Q : Po) (U : State) (o : Outcome) (U' : State) (rm : Room) : Prop :=
  ∃ v L S', o = .returned v ∧ (Q v U'.heap S' ∧ Fr n0 L ∧ Old Z n0 U'.heap ∧ SafeL Z EL U'.vm U'.heap S') ∧ CHr Z EL U.vm U.heap U'.vm U'.heap ∧ ReturnedEndW U o U' L rm.cells rm.slots
def Con (y : MethodName) (bytes : ByteArray) (maxL : Nat) (ret : Option FieldType) (ws : List Jvm.Cond) (rm : Room) (as' : Array Value) (S : List Addr) (h : Heap) (Q : Po) : Prop :=
  MetFree l y (head1 (Jvm.Cond.code y bytes maxL ret :: ws) rm) (fun a U => a = as' ∧ Z.Warmed39 U.vm ∧ U.heap = h ∧ CHv Z EL U.vm h ∧ SafeL Z EL U.vm h S) (fun _ _ _ _ _ => True) (fun _ U o U' => Don Z EL n0 Q U o U' rm)
def Sit (S : List Addr) (h : Heap) (k n : Nat) (T : State) : Prop :=
  ∃ locs vm0 k0 k' n', k' ≤ k ∧ n' ≤ n ∧ Stand p l e R (s.setVm vm0) m args below meth c T locs k' n' ∧ T.heap = h ∧ s.Since vm0 k0 ∧ k0 ≤ h.size ∧ Z.Warmed39 vm0 ∧ vm0.findClass own = some m.cls ∧ Fr n0 locs ∧ Old Z n0 h ∧ CHr Z EL s.vm s.heap vm0 h ∧ SafeL Z EL vm0 h S
def Fnl (Q : Po) (t : State) : Prop := ∃ s₂ o, Steps p.tables e below t s₂ ∧ s₂.status = .running ∧ Ended s₂ below o ∧ Don Z EL n0 Q s o s₂ R
def Go (Q : Po) (S : List Addr) (h : Heap) (k n : Nat) (pc : Nat) (Ls : Array Slot) (st : List Value) : Prop :=
  ∀ T, Sit p l e R s m args below meth c Z EL n0 own S h k n T → Fnl p e R s below Z EL n0 Q (T.setTop (mkF m pc Ls st))
def Bdy (a0 : Array Value) (bytes : ByteArray) (maxL : Nat) (ret : Option FieldType) (nm : String) : Prop :=
  p.tables.exec = Jvm.exec ∧ c.code = bytes ∧ c.maxLocals = maxL ∧ meth.sig.returnType = ret ∧ meth.name = nm ∧ meth.locks = false ∧ EW Z a0 EL ∧ (∀ w ∈ Bundle.stringAtoms, w.before a0 Z = true)
end Defs
section Rules
variable {p : Program} {l : Launch} {e : Env} {R : Room} {s : State} {m : MethodId} {args : Array Value} {below : List Frame} {meth : Method} {c : Code} {Z : State} {EL : List (String × Nat)} {n0 : Nat} {own : String} {a0 : Array Value} {bytes : ByteArray} {maxL : Nat} {ret : Option FieldType} {nm : String} {Q : Po} {S S' : List Addr} {h h' : Heap} {k n k' n' pc pc' : Nat} {Ls Ls' : Array Slot} {st st' rest : List Value}
theorem SafeL.nil {vm : Vm} : SafeL Z EL vm h [] := fun _ q => nomatch q
theorem SafeL.chr {vm vm1 : Vm} (A : CHr Z EL vm h vm1 h') (q : SafeL Z EL vm h S) : SafeL Z EL vm1 h' S := fun x hx => ⟨Nat.lt_of_lt_of_le (q x hx).1 A.2.1, A.safe (q x hx).1 (q x hx).2⟩
theorem SafeL.sub {vm : Vm} (q : SafeL Z EL vm h S) (hs : ∀ x ∈ S', x ∈ S) : SafeL Z EL vm h S' := fun x hx => q x (hs x hx)
theorem SafeL.app {vm : Vm} (q : SafeL Z EL vm h S) (q' : SafeL Z EL vm h S') : SafeL Z EL vm h (S ++ S') := fun x hx => (List.mem_append.mp hx).elim (q x) (q' x)
theorem SafeL.cons {vm : Vm} {a : Addr} (ha : a < h.size ∧ Safe Z EL vm h a) (q : SafeL Z EL vm h S) : SafeL Z EL vm h (a :: S) := fun x hx => (List.mem_cons.mp hx).elim (fun z => z ▸ ha) (q x)
theorem keepE (E : Ext h h') : Keep h h' [] := (Keep.refl h []).ext E
theorem nin0 {x : Nat} : x ∉ ([] : List Nat) := fun q => nomatch q
theorem ninS {x y : Nat} {L : List Nat} (q : x ≠ y) (r : x ∉ L) : x ∉ y :: L := by simp [q, r]
theorem allI0 {P : Int32 → Prop} : ∀ x ∈ ([] : List Int32), P x := fun _ q => nomatch q
theorem allI {P : Int32 → Prop} {y : Int32} {L : List Int32} (q : P y) (r : ∀ x ∈ L, P x) : ∀ x ∈ y :: L, P x := List.forall_mem_cons.mpr ⟨q, r⟩
theorem old_le (O : Old Z n0 h) : n0 ≤ h.size := O.1 ▸ O.2.1
theorem Go.mono (hk : k ≤ k') (hn : n ≤ n') (hs : ∀ x ∈ S', x ∈ S) (hr : Go p l e R s m args below meth c Z EL n0 own Q S' h k' n' pc Ls st) : Go p l e R s m args below meth c Z EL n0 own Q S h k n pc Ls st := by
  intro T ⟨locs, vm0, k0, k1, n1, q1, q2, X, eT, hS, hk0, hZ, hown, N, O, C, SL⟩
  exact hr T ⟨locs, vm0, k0, k1, n1, Nat.le_trans q1 hk, Nat.le_trans q2 hn, X, eT, hS, hk0, hZ, hown, N, O, C, SL.sub hs⟩
theorem Go.norm (hs : ∀ x ∈ S', x ∈ S) (hst : st = st') (hr : Go p l e R s m args below meth c Z EL n0 own Q S' h k n pc Ls st') : Go p l e R s m args below meth c Z EL n0 own Q S h k n pc Ls st := by
  subst hst
  exact Go.mono (Nat.le_refl _) (Nat.le_refl _) hs hr
theorem Go.nr (hr : Go p l e R s m args below meth c Z EL n0 own Q S' h k n pc Ls st') (hst : st = st' := by rfl) : Go p l e R s m args below meth c Z EL n0 own Q (S ++ S') h k n pc Ls st := Go.norm (fun _ q => List.mem_append_right _ q) hst hr
/-- in a walk the old heap is there -/
theorem Go.old (hr : Old Z n0 h → Go p l e R s m args below meth c Z EL n0 own Q S h k n pc Ls st) : Go p l e R s m args below meth c Z EL n0 own Q S h k n pc Ls st := by
  intro T A
  have A' := A
  obtain ⟨locs, vm0, k0, k1, n1, q1, q2, X, eT, hS, hk0, hZ, hown, N, O, C, SL⟩ := A'
  exact hr O T A
/-- a join: the rest from pc1 is walked once -/
theorem Go.join {α : Type} {pc1 : Nat} (F : α → Array Slot) (D : α → List Value) (hJ : ∀ b, Go p l e R s m args below meth c Z EL n0 own Q S h k n pc1 (F b) (D b)) (hr : (∀ b, Go p l e R s m args below meth c Z EL n0 own Q S h k n pc1 (F b) (D b)) → Go p l e R s m args below meth c Z EL n0 own Q S h k n pc Ls st) : Go p l e R s m args below meth c Z EL n0 own Q S h k n pc Ls st := hr hJ
theorem Con.enter {y : MethodName} {ws : List Jvm.Cond} {rm : Room} {as' : Array Value} (hpl : plainFor y = true) (hO : Old Z n0 h) (hEW : EW Z a0 EL) (hwS : ∀ w ∈ Bundle.stringAtoms, w.before a0 Z = true)
    (body : ∀ (p : Program) (e : Env) (s : State) (m : MethodId) (below : List Frame) (meth : Method) (c : Code), Bdy p meth c Z EL a0 bytes maxL ret y.name → Go p l e rm s m as' below meth c Z EL n0 y.cls Q S h 0 0 0 Ls [])
    (hef : ∀ m : MethodId, entryFrame m as' maxL = mkF m 0 Ls [] := by intro m; first | rfl | (simp [entryFrame, mkF, argsToLocals, Value.category]; done)) :
    Con l Z EL n0 y bytes maxL ret ws rm as' S h Q := by
  refine MetFree.of_bodySF hpl hisR ?_
  intro p e s m args below meth c s₁ Bd hml0 hP hK
  obtain ⟨rfl, hZ, rfl, hC, hS⟩ := hP
  have X0 : Stand p l e rm s m args below meth c s₁ [] 0 0 := Stand.of_body Bd
  have hown : s.vm.findClass y.cls = some m.cls := findClass_of_methodNamed Bd.named
  have hnm := (name_of_methodNamed Bd.named Bd.method).1
  have e0 : s₁.heap = s.heap := by rw [Bd.state]; rfl
  rw [hef m]
  exact body p e s m below meth c ⟨Bd.exec, Bd.bytes, hml0, Bd.returns, hnm, Bd.notSynchronized, hEW, hwS⟩ s₁ ⟨[], s.vm, s.heap.size, 0, 0, Nat.le_refl _, Nat.le_refl _, X0, e0, (State.WarmedH.refl s).since _, Nat.le_refl _, hZ, hown, Fr.nil _, hO, CHr.refl hC, hS⟩
theorem plain (hr : Go p l e R s m args below meth c Z EL n0 own Q S h k n pc' Ls' st')
    (stp : ∀ T, At T m c below → ∀ t, Steps p.tables e below (T.setTop (mkF m pc' Ls' st')) t → Steps p.tables e below (T.setTop (mkF m pc Ls st)) t) : Go p l e R s m args below meth c Z EL n0 own Q S h k n pc Ls st := by
  intro T A
  have A' := A
  obtain ⟨locs, vm0, k0, k1, n1, q1, q2, X, r⟩ := A'
  obtain ⟨s2, o, q, r2⟩ := hr T A
  exact ⟨s2, o, stp T X.here _ q, r2⟩
/-- a step that may warm the tables, the heap as it was -/
theorem warm (hr : Go p l e R s m args below meth c Z EL n0 own Q S h k n pc' Ls' st')
    (stp : ∀ T vm0 locs k1 n1, Stand p l e R (s.setVm vm0) m args below meth c T locs k1 n1 → T.heap = h → Z.Warmed39 (s.setVm vm0).vm → (s.setVm vm0).vm.findClass own = some m.cls → Old Z n0 h →
      ∃ T', Stand p l e R (s.setVm vm0) m args below meth c T' locs k1 n1 ∧ T'.heap = h ∧ ∀ t, Steps p.tables e below (T'.setTop (mkF m pc' Ls' st')) t → Steps p.tables e below (T.setTop (mkF m pc Ls st)) t) : Go p l e R s m args below meth c Z EL n0 own Q S h k n pc Ls st := by
  intro T ⟨locs, vm0, k0, k1, n1, q1, q2, X, eT, hS, hk0, hZ, hown, N, O, C, SL⟩
  obtain ⟨T', X', e', sp⟩ := stp T vm0 locs k1 n1 X eT hZ hown O
  obtain ⟨s2, o, q, r2⟩ := hr T' ⟨locs, vm0, k0, k1, n1, q1, q2, X', e', hS, hk0, hZ, hown, N, O, C, SL⟩
  exact ⟨s2, o, sp _ q, r2⟩
/-- a step that makes one cell -/
theorem made {dc dn : Nat} {nn : Nat} {P : Heap → Prop} (hk : k + 1 ≤ k') (hn : n + nn ≤ n')
    (stp : ∀ T vm0 locs k1 n1, k1 ≤ k → n1 ≤ n → Stand p l e R (s.setVm vm0) m args below meth c T locs k1 n1 → T.heap = h → Z.Warmed39 (s.setVm vm0).vm → (s.setVm vm0).vm.findClass own = some m.cls →
      ∃ T' h', Stand p l e R (s.setVm vm0) m args below meth c T' locs (k1 + 1) (n1 + nn) ∧ T'.heap = h' ∧ Ext h h' ∧ h.size < h'.size ∧ P h' ∧ ∀ t, Steps p.tables e below (T'.setTop (mkF m pc' Ls' st')) t → Steps p.tables e below (T.setTop (mkF m pc Ls st)) t)
    (hr : ∀ h', Ext h h' → P h' → n0 ≤ h.size → Go p l e R s m args below meth c Z EL n0 own Q (h.size :: S) h' k' n' pc' Ls' st') : Go p l e R s m args below meth c Z EL n0 own Q S h k n pc Ls st := by
  intro T ⟨locs, vm0, k0, k1, n1, q1, q2, X, eT, hS, hk0, hZ, hown, N, O, C, SL⟩
  obtain ⟨T', h', X', e', E, lt, hP, sp⟩ := stp T vm0 locs k1 n1 q1 q2 X eT hZ hown
  have A := CHr.ext (EL := EL) (vm := vm0) E C.1
  have sf : Safe Z EL vm0 h h.size := Safe.new (Nat.le_refl _)
  obtain ⟨s2, o, q, r2⟩ := hr h' E hP (old_le O) T' ⟨locs, vm0, k0, k1 + 1, n1 + nn, by omega, by omega, X', e', hS, Nat.le_trans hk0 E.1, hZ, hown, N, O.ext E, C.trans A, (SL.chr A).cons ⟨lt, sf.ext E C.1⟩⟩
  exact ⟨s2, o, sp _ q, r2⟩
/-- a step that writes one place of one cell -/
theorem wrote {a : Addr} {sl : Nat} {v : Value} (ha : n0 ≤ a) (hsafe : ∀ vm0, Z.Warmed39 vm0 → SafeL Z EL vm0 h S → Safe Z EL vm0 h a)
    (stp : ∀ T vm0 locs k1 n1, Stand p l e R (s.setVm vm0) m args below meth c T locs k1 n1 → T.heap = h → Z.Warmed39 (s.setVm vm0).vm → (s.setVm vm0).vm.findClass own = some m.cls →
      ∃ T' h', Stand p l e R (s.setVm vm0) m args below meth c T' (locs ++ [⟨a, sl⟩]) k1 n1 ∧ T'.heap = h' ∧ Wr h h' a sl v ∧ ∀ t, Steps p.tables e below (T'.setTop (mkF m pc' Ls' st')) t → Steps p.tables e below (T.setTop (mkF m pc Ls st)) t)
    (hr : ∀ h', Wr h h' a sl v → Go p l e R s m args below meth c Z EL n0 own Q S h' k n pc' Ls' st') : Go p l e R s m args below meth c Z EL n0 own Q S h k n pc Ls st := by
  intro T ⟨locs, vm0, k0, k1, n1, q1, q2, X, eT, hS, hk0, hZ, hown, N, O, C, SL⟩
  obtain ⟨T', h', X', e', W, sp⟩ := stp T vm0 locs k1 n1 X eT hZ hown
  have A := CHr.wr (EL := EL) (vm := vm0) W (hsafe vm0 hZ SL) C.1
  obtain ⟨s2, o, q, r2⟩ := hr h' W T' ⟨_, vm0, k0, k1, n1, q1, q2, X', e', hS, by rw [W.size]; exact hk0, hZ, hown, Fr.snoc X' N ha, O.wr W ha, C.trans A, SL.chr A⟩
  exact ⟨s2, o, sp _ q, r2⟩
/-- a callee by its contract -/
theorem Con.back {y : MethodName} {bytes' : ByteArray} {maxL' : Nat} {ret' : Option FieldType} {rm : Room} {as' : Array Value} {Q' : Po} {len W : Nat} {vm0 : Vm} (hM : Con l Z EL n0 y bytes' maxL' ret' [] rm as' S h Q')
    (hZ : Z.Warmed39 vm0) (wc : (Jvm.Cond.code y bytes' maxL' ret').before a0 Z = true) (wz : (Jvm.Cond.initialized y.cls).before a0 Z = true) (hf : rm.frames + 1 ≤ R.frames) (hl : W + (maxL' + 11) + rm.locals ≤ R.locals) (hEL : EW Z a0 EL) (H : CHv Z EL vm0 h) (hSL : SafeL Z EL vm0 h S) :
    BackS l R p e below (s.setVm vm0) args y len W (fun A a => a = as' ∧ A.U.heap = h ∧ A.cells + rm.cells ≤ R.cells ∧ A.slots + rm.slots ≤ R.slots)
      (fun A _ v B => ∃ L S', (Q' v B.U.heap S' ∧ Fr n0 L ∧ Old Z n0 B.U.heap ∧ SafeL Z EL B.U.vm B.U.heap S') ∧ B.locs = A.locs ++ L ∧ B.cells = A.cells + rm.cells ∧ B.slots = A.slots + rm.slots ∧ CHr Z EL vm0 h B.U.vm B.U.heap) := by
  have loc : ∀ {m : MethodId} {meth : Method} {c : Code} {A : Pt}, Stand p l e R (s.setVm vm0) m args below meth c A.U A.locs A.cells A.slots → Z.Warmed39 A.U.vm ∧ CHr Z EL vm0 h A.U.vm h := fun Y => ⟨wtrans (s := s.setVm vm0) hZ Y.warmed, CHv.at Y hZ hEL H⟩
  apply BackS.of_freeW (bytes := bytes') (maxL := maxL') (ret := ret') (E := fun _ U o U' L k n => ∃ v S', (o, k, n) = (.returned v, rm.cells, rm.slots) ∧ CHr Z EL U.vm U.heap U'.vm U'.heap ∧ Q' v U'.heap S' ∧ Fr n0 L ∧ Old Z n0 U'.heap ∧ SafeL Z EL U'.vm U'.heap S') hM hf hl
  · rintro m meth c A a Y ⟨-, -, g1, g2⟩
    have cd : (Jvm.Cond.code y bytes' maxL' ret').before a A.U = true := mv (loc Y).1 wc
    have ct : (Jvm.Cond.and (Jvm.Cond.code y bytes' maxL' ret') .tt).before a A.U = true := by rw [Cond.before_and, cd]; rfl
    exact ⟨ct, cd, mv (loc Y).1 wz, g1, g2⟩
  · rintro m meth c A a g mk Y ⟨g1, g2, -⟩
    exact ⟨g1, (loc Y).1, g2, (loc Y).2.1, hSL.chr (loc Y).2⟩
  · intros; trivial
  · rintro _ _ _ _ ⟨v, L, S', rfl, d, hC, hE⟩
    exact ⟨L, _, _, hE, v, S', rfl, hC, d⟩
  · rintro m meth c A a g mk v t L k n Y ⟨-, rfl, -⟩ - - ⟨v', S', o1, hC, d⟩
    cases o1
    exact ⟨L, S', d, rfl, rfl, rfl, (loc Y).2.trans hC⟩
abbrev NoH (y : MethodName) : Prop := y.cls ≠ "java/lang/invoke/MethodHandle" ∧ y.cls ≠ "java/lang/invoke/VarHandle"
/-- behind a call -/
theorem after {T : State} {vm0 : Vm} {k0 k1 n1 : Nat} {rm : Room} {Q' : Po} {v : Option Value} {P : Pt} {locs : List Loc} {t0 : State} (hS : s.Since vm0 k0) (hk0 : k0 ≤ h.size) (eT : T.heap = h) (q1 : k1 ≤ k) (q2 : n1 ≤ n) (hk : k + rm.cells ≤ k') (hn : n + rm.slots ≤ n')
    (hZ : Z.Warmed39 vm0) (hown : vm0.findClass own = some m.cls) (N : Fr n0 locs) (C : CHr Z EL s.vm s.heap vm0 h) (SL : SafeL Z EL vm0 h S)
    (X' : Stand p l e R ((s.setVm vm0).setVm P.U.vm) m args below meth c P.U P.locs P.cells P.slots) (h2 : (s.setVm vm0).Since P.U.vm P.U.heap.size) (hg : T.heap.size ≤ P.U.heap.size)
    (hpost : ∃ L S', (Q' v P.U.heap S' ∧ Fr n0 L ∧ Old Z n0 P.U.heap ∧ SafeL Z EL P.U.vm P.U.heap S') ∧ P.locs = locs ++ L ∧ P.cells = k1 + rm.cells ∧ P.slots = n1 + rm.slots ∧ CHr Z EL vm0 h P.U.vm P.U.heap)
    (hst : Steps p.tables e below t0 (P.U.setTop (mkF m pc' Ls (v.toList ++ rest))))
    (hr : ∀ v h' S', Q' v h' S' → h.size ≤ h'.size → Go p l e R s m args below meth c Z EL n0 own Q (S' ++ S) h' k' n' pc' Ls (v.toList ++ rest)) : Fnl p e R s below Z EL n0 Q t0 := by
  obtain ⟨L, S', ⟨hQ, N', O', SL'⟩, e1, e2, e3, C'⟩ := hpost
  obtain ⟨Y, hS2, hZ2, hown2⟩ := rebS hS (by rw [eT]; exact hk0) X' h2 hg hZ hown
  obtain ⟨s2, o, q, r2⟩ := hr v P.U.heap S' hQ C'.2.1 P.U ⟨P.locs, P.U.vm, P.U.heap.size, P.cells, P.slots, by omega, by omega, Y, rfl, hS2, Nat.le_refl _, hZ2, hown2, e1 ▸ N.app N', O', C.trans C', SL'.app (SL.chr C')⟩
  exact ⟨s2, o, hst.trans q, r2⟩
theorem iload (B : Bdy p meth c Z EL a0 bytes maxL ret nm) {j : Nat} {x : Int32} (hd : decode bytes pc = .ok (.iload j, 2)) (hr : Go p l e R s m args below meth c Z EL n0 own Q S h k n pc' Ls (.int x :: st)) (hp : pc' = pc + 2 := by rfl) (hl : Ls[j]? = some (.val (.int x)) := by rfl) : Go p l e R s m args below meth c Z EL n0 own Q S h k n pc Ls st := by
  subst hp
  exact plain hr fun T A t q => XS.iload A B.1 rfl (hb B.2.1 hd) hl q
theorem iloadN (B : Bdy p meth c Z EL a0 bytes maxL ret nm) {j : Fin 4} {x : Int32} (hd : decode bytes pc = .ok (.iload_n j, 1)) (hr : Go p l e R s m args below meth c Z EL n0 own Q S h k n pc' Ls (.int x :: st)) (hp : pc' = pc + 1 := by rfl) (hl : Ls[j.val]? = some (.val (.int x)) := by rfl) : Go p l e R s m args below meth c Z EL n0 own Q S h k n pc Ls st := by
  subst hp
  exact plain hr fun T A t q => XS.iloadN A B.1 rfl (hb B.2.1 hd) hl q
theorem aload (B : Bdy p meth c Z EL a0 bytes maxL ret nm) {j : Nat} {v : Value} (hd : decode bytes pc = .ok (.aload j, 2)) (hr : Go p l e R s m args below meth c Z EL n0 own Q S h k n pc' Ls (v :: st)) (hp : pc' = pc + 2 := by rfl) (hl : Ls[j]? = some (.val v) := by rfl) (hv : v.isRef = true := by rfl) : Go p l e R s m args below meth c Z EL n0 own Q S h k n pc Ls st := by
  subst hp
  exact plain hr fun T A t q => XS.aload A B.1 rfl (hb B.2.1 hd) hl hv q
theorem aloadN (B : Bdy p meth c Z EL a0 bytes maxL ret nm) {j : Fin 4} {v : Value} (hd : decode bytes pc = .ok (.aload_n j, 1)) (hr : Go p l e R s m args below meth c Z EL n0 own Q S h k n pc' Ls (v :: st)) (hp : pc' = pc + 1 := by rfl) (hl : Ls[j.val]? = some (.val v) := by rfl) (hv : v.isRef = true := by rfl) : Go p l e R s m args below meth c Z EL n0 own Q S h k n pc Ls st := by
  subst hp
  exact plain hr fun T A t q => XS.aloadN A B.1 rfl (hb B.2.1 hd) hl hv q
theorem istore (B : Bdy p meth c Z EL a0 bytes maxL ret nm) {j : Nat} {x : Int32} (hd : decode bytes pc = .ok (.istore j, 2)) (hr : Go p l e R s m args below meth c Z EL n0 own Q S h k n pc' Ls' st) (hp : pc' = pc + 2 := by rfl) (hl : storeLocals Ls j (.int x) = some Ls' := by rfl) : Go p l e R s m args below meth c Z EL n0 own Q S h k n pc Ls (.int x :: st) := by
  subst hp
  exact plain hr fun T A t q => XS.istore A B.1 rfl (hb B.2.1 hd) rfl hl q
theorem istoreN (B : Bdy p meth c Z EL a0 bytes maxL ret nm) {j : Fin 4} {x : Int32} (hd : decode bytes pc = .ok (.istore_n j, 1)) (hr : Go p l e R s m args below meth c Z EL n0 own Q S h k n pc' Ls' st) (hp : pc' = pc + 1 := by rfl) (hl : storeLocals Ls j.val (.int x) = some Ls' := by rfl) : Go p l e R s m args below meth c Z EL n0 own Q S h k n pc Ls (.int x :: st) := by
  subst hp
  exact plain hr fun T A t q => XS.istoreN A B.1 rfl (hb B.2.1 hd) rfl hl q
theorem astore (B : Bdy p meth c Z EL a0 bytes maxL ret nm) {j : Nat} {v : Value} (hd : decode bytes pc = .ok (.astore j, 2)) (hr : Go p l e R s m args below meth c Z EL n0 own Q S h k n pc' Ls' st) (hp : pc' = pc + 2 := by rfl) (hv : v.isRef = true := by rfl) (hl : storeLocals Ls j v = some Ls' := by rfl) : Go p l e R s m args below meth c Z EL n0 own Q S h k n pc Ls (v :: st) := by
  subst hp
  exact plain hr fun T A t q => XS.astore A B.1 rfl (hb B.2.1 hd) rfl hv hl q
theorem astoreN (B : Bdy p meth c Z EL a0 bytes maxL ret nm) {j : Fin 4} {v : Value} (hd : decode bytes pc = .ok (.astore_n j, 1)) (hr : Go p l e R s m args below meth c Z EL n0 own Q S h k n pc' Ls' st) (hp : pc' = pc + 1 := by rfl) (hv : v.isRef = true := by rfl) (hl : storeLocals Ls j.val v = some Ls' := by rfl) : Go p l e R s m args below meth c Z EL n0 own Q S h k n pc Ls (v :: st) := by
  subst hp
  exact plain hr fun T A t q => XS.astoreN A B.1 rfl (hb B.2.1 hd) rfl hv hl q
theorem iinc (B : Bdy p meth c Z EL a0 bytes maxL ret nm) {j : Nat} {cst : Int} {x y : Int32} (hd : decode bytes pc = .ok (.iinc j cst, 3)) (hr : Go p l e R s m args below meth c Z EL n0 own Q S h k n pc' Ls' st) (hp : pc' = pc + 3 := by rfl) (hl : Ls[j]? = some (.val (.int x)) := by rfl) (hy : y = x + Int32.ofInt cst := by first | rfl | decide) (hl' : storeLocals Ls j (.int y) = some Ls' := by rfl) : Go p l e R s m args below meth c Z EL n0 own Q S h k n pc Ls st := by
  subst hp
  exact plain hr fun T A t q => XS.iinc A B.1 rfl (hb B.2.1 hd) hl (hy ▸ hl') q
theorem iconst (B : Bdy p meth c Z EL a0 bytes maxL ret nm) {i : Int} {x : Int32} (hd : decode bytes pc = .ok (.iconst i, 1)) (hr : Go p l e R s m args below meth c Z EL n0 own Q S h k n pc' Ls (.int x :: st)) (hp : pc' = pc + 1 := by rfl) (hi : Int32.ofInt i = x := by first | rfl | decide) : Go p l e R s m args below meth c Z EL n0 own Q S h k n pc Ls st := by
  subst hp
  exact plain hr fun T A t q => XS.iconst A B.1 rfl (hb B.2.1 hd) (hi ▸ q)
theorem bipush (B : Bdy p meth c Z EL a0 bytes maxL ret nm) {i : Int} {x : Int32} (hd : decode bytes pc = .ok (.bipush i, 2)) (hr : Go p l e R s m args below meth c Z EL n0 own Q S h k n pc' Ls (.int x :: st)) (hp : pc' = pc + 2 := by rfl) (hi : (Int8.ofInt i).toInt32 = x := by first | rfl | decide) : Go p l e R s m args below meth c Z EL n0 own Q S h k n pc Ls st := by
  subst hp
  exact plain hr fun T A t q => XS.bipush A B.1 rfl (hb B.2.1 hd) (hi ▸ q)
theorem sipush (B : Bdy p meth c Z EL a0 bytes maxL ret nm) {i : Int} {x : Int32} (hd : decode bytes pc = .ok (.sipush i, 3)) (hr : Go p l e R s m args below meth c Z EL n0 own Q S h k n pc' Ls (.int x :: st)) (hp : pc' = pc + 3 := by rfl) (hi : (Int16.ofInt i).toInt32 = x := by first | rfl | decide) : Go p l e R s m args below meth c Z EL n0 own Q S h k n pc Ls st := by
  subst hp
  exact plain hr fun T A t q => XS.sipush A B.1 rfl (hb B.2.1 hd) (hi ▸ q)
theorem aconstNull (B : Bdy p meth c Z EL a0 bytes maxL ret nm)  (hd : decode bytes pc = .ok (.aconst_null, 1)) (hr : Go p l e R s m args below meth c Z EL n0 own Q S h k n pc' Ls (.null :: st)) (hp : pc' = pc + 1 := by rfl)  : Go p l e R s m args below meth c Z EL n0 own Q S h k n pc Ls st := by
  subst hp
  exact plain hr fun T A t q => XS.aconstNull A B.1 rfl (hb B.2.1 hd) q
theorem iadd (B : Bdy p meth c Z EL a0 bytes maxL ret nm) {x y z : Int32} (hd : decode bytes pc = .ok (.iadd, 1)) (hr : Go p l e R s m args below meth c Z EL n0 own Q S h k n pc' Ls (.int z :: st)) (hp : pc' = pc + 1 := by rfl) (hz : x + y = z := by first | rfl | decide) : Go p l e R s m args below meth c Z EL n0 own Q S h k n pc Ls (.int y :: .int x :: st) := by
  subst hp
  exact plain hr fun T A t q => XS.iadd A B.1 rfl (hb B.2.1 hd) rfl (hz ▸ q)
theorem isub (B : Bdy p meth c Z EL a0 bytes maxL ret nm) {x y z : Int32} (hd : decode bytes pc = .ok (.isub, 1)) (hr : Go p l e R s m args below meth c Z EL n0 own Q S h k n pc' Ls (.int z :: st)) (hp : pc' = pc + 1 := by rfl) (hz : x - y = z := by first | rfl | decide) : Go p l e R s m args below meth c Z EL n0 own Q S h k n pc Ls (.int y :: .int x :: st) := by
  subst hp
  exact plain hr fun T A t q => XS.isub A B.1 rfl (hb B.2.1 hd) rfl (hz ▸ q)
theorem iand (B : Bdy p meth c Z EL a0 bytes maxL ret nm) {x y z : Int32} (hd : decode bytes pc = .ok (.iand, 1)) (hr : Go p l e R s m args below meth c Z EL n0 own Q S h k n pc' Ls (.int z :: st)) (hp : pc' = pc + 1 := by rfl) (hz : x &&& y = z := by first | rfl | decide) : Go p l e R s m args below meth c Z EL n0 own Q S h k n pc Ls (.int y :: .int x :: st) := by
  subst hp
  exact plain hr fun T A t q => XS.iand A B.1 rfl (hb B.2.1 hd) rfl (hz ▸ q)
theorem ishr (B : Bdy p meth c Z EL a0 bytes maxL ret nm) {x y z : Int32} (hd : decode bytes pc = .ok (.ishr, 1)) (hr : Go p l e R s m args below meth c Z EL n0 own Q S h k n pc' Ls (.int z :: st)) (hp : pc' = pc + 1 := by rfl) (hz : x >>> (y &&& 31) = z := by first | rfl | decide) : Go p l e R s m args below meth c Z EL n0 own Q S h k n pc Ls (.int y :: .int x :: st) := by
  subst hp
  exact plain hr fun T A t q => XT.ishr A B.1 rfl (hb B.2.1 hd) rfl (hz ▸ q)
theorem iushr (B : Bdy p meth c Z EL a0 bytes maxL ret nm) {x y z : Int32} (hd : decode bytes pc = .ok (.iushr, 1)) (hr : Go p l e R s m args below meth c Z EL n0 own Q S h k n pc' Ls (.int z :: st)) (hp : pc' = pc + 1 := by rfl) (hz : Jvm.Free.XT.ushr x y = z := by first | rfl | decide) : Go p l e R s m args below meth c Z EL n0 own Q S h k n pc Ls (.int y :: .int x :: st) := by
  subst hp
  exact plain hr fun T A t q => XT.iushr A B.1 rfl (hb B.2.1 hd) rfl (hz ▸ q)
theorem i2b (B : Bdy p meth c Z EL a0 bytes maxL ret nm) {x z : Int32} (hd : decode bytes pc = .ok (.i2b, 1)) (hr : Go p l e R s m args below meth c Z EL n0 own Q S h k n pc' Ls (.int z :: st)) (hp : pc' = pc + 1 := by rfl) (hz : x.toInt8.toInt32 = z := by first | rfl | decide) : Go p l e R s m args below meth c Z EL n0 own Q S h k n pc Ls (.int x :: st) := by
  subst hp
  exact plain hr fun T A t q => XT.i2b A B.1 rfl (hb B.2.1 hd) rfl (hz ▸ q)
theorem i2c (B : Bdy p meth c Z EL a0 bytes maxL ret nm) {x z : Int32} (hd : decode bytes pc = .ok (.i2c, 1)) (hr : Go p l e R s m args below meth c Z EL n0 own Q S h k n pc' Ls (.int z :: st)) (hp : pc' = pc + 1 := by rfl) (hz : x.toUInt32.toUInt16.toUInt32.toInt32 = z := by first | rfl | decide) : Go p l e R s m args below meth c Z EL n0 own Q S h k n pc Ls (.int x :: st) := by
  subst hp
  exact plain hr fun T A t q => XT.i2c A B.1 rfl (hb B.2.1 hd) rfl (hz ▸ q)
theorem dup (B : Bdy p meth c Z EL a0 bytes maxL ret nm) {v : Value} (hd : decode bytes pc = .ok (.dup, 1)) (hr : Go p l e R s m args below meth c Z EL n0 own Q S h k n pc' Ls (v :: v :: st)) (hp : pc' = pc + 1 := by rfl) (hc : v.category = 1 := by rfl) : Go p l e R s m args below meth c Z EL n0 own Q S h k n pc Ls (v :: st) := by
  subst hp
  exact plain hr fun T A t q => XS.dup A B.1 rfl (hb B.2.1 hd) rfl hc q
theorem pop (B : Bdy p meth c Z EL a0 bytes maxL ret nm) {v : Value} (hd : decode bytes pc = .ok (.pop, 1)) (hr : Go p l e R s m args below meth c Z EL n0 own Q S h k n pc' Ls st) (hp : pc' = pc + 1 := by rfl) (hc : v.category = 1 := by rfl) : Go p l e R s m args below meth c Z EL n0 own Q S h k n pc Ls (v :: st) := by
  subst hp
  exact plain hr fun T A t q => XT.pop A B.1 rfl (hb B.2.1 hd) rfl hc q
theorem goto (B : Bdy p meth c Z EL a0 bytes maxL ret nm) {o : Int} (hd : decode bytes pc = .ok (.goto o, 3)) (hr : Go p l e R s m args below meth c Z EL n0 own Q S h k n pc' Ls st) (ho : 0 ≤ (pc : Int) + o := by decide) (hp : ((pc : Int) + o).toNat = pc' := by decide) : Go p l e R s m args below meth c Z EL n0 own Q S h k n pc Ls st := plain hr fun T A t q => XS.goto A B.1 rfl (pc0 := pc) rfl (hb B.2.1 hd) ho hp q
theorem ifT (B : Bdy p meth c Z EL a0 bytes maxL ret nm) {cd : ClassFile.Cond} {x : Int32} {o : Int} (hd : decode bytes pc = .ok (.ifCond cd o, 3)) (hc : if_icmp.holds cd x 0 = true) (hr : Go p l e R s m args below meth c Z EL n0 own Q S h k n pc' Ls st) (ho : 0 ≤ (pc : Int) + o := by decide) (hp : ((pc : Int) + o).toNat = pc' := by decide) : Go p l e R s m args below meth c Z EL n0 own Q S h k n pc Ls (.int x :: st) := plain hr fun T A t q => XS.ifYes A B.1 rfl (pc0 := pc) rfl (hb B.2.1 hd) rfl ((if0 cd x).trans hc) ho hp q
theorem ifF (B : Bdy p meth c Z EL a0 bytes maxL ret nm) {cd : ClassFile.Cond} {x : Int32} {o : Int} (hd : decode bytes pc = .ok (.ifCond cd o, 3)) (hc : if_icmp.holds cd x 0 = false) (hr : Go p l e R s m args below meth c Z EL n0 own Q S h k n pc' Ls st) (hp : pc' = pc + 3 := by rfl) : Go p l e R s m args below meth c Z EL n0 own Q S h k n pc Ls (.int x :: st) := by
  subst hp
  exact plain hr fun T A t q => XS.ifNo A B.1 rfl (hb B.2.1 hd) rfl ((if0 cd x).trans hc) q
theorem icmpT (B : Bdy p meth c Z EL a0 bytes maxL ret nm) {cd : ClassFile.Cond} {x y : Int32} {o : Int} (hd : decode bytes pc = .ok (.if_icmp cd o, 3)) (hc : if_icmp.holds cd x y = true) (hr : Go p l e R s m args below meth c Z EL n0 own Q S h k n pc' Ls st) (ho : 0 ≤ (pc : Int) + o := by decide) (hp : ((pc : Int) + o).toNat = pc' := by decide) : Go p l e R s m args below meth c Z EL n0 own Q S h k n pc Ls (.int y :: .int x :: st) := plain hr fun T A t q => XS.icmpYes A B.1 rfl (pc0 := pc) rfl (hb B.2.1 hd) rfl hc ho hp q
theorem icmpF (B : Bdy p meth c Z EL a0 bytes maxL ret nm) {cd : ClassFile.Cond} {x y : Int32} {o : Int} (hd : decode bytes pc = .ok (.if_icmp cd o, 3)) (hc : if_icmp.holds cd x y = false) (hr : Go p l e R s m args below meth c Z EL n0 own Q S h k n pc' Ls st) (hp : pc' = pc + 3 := by rfl) : Go p l e R s m args below meth c Z EL n0 own Q S h k n pc Ls (.int y :: .int x :: st) := by
  subst hp
  exact plain hr fun T A t q => XS.icmpNo A B.1 rfl (hb B.2.1 hd) rfl hc q
theorem ifnullT (B : Bdy p meth c Z EL a0 bytes maxL ret nm) {o : Int} (hd : decode bytes pc = .ok (.ifnull o, 3)) (hr : Go p l e R s m args below meth c Z EL n0 own Q S h k n pc' Ls st) (ho : 0 ≤ (pc : Int) + o := by decide) (hp : ((pc : Int) + o).toNat = pc' := by decide) : Go p l e R s m args below meth c Z EL n0 own Q S h k n pc Ls (.null :: st) := plain hr fun T A t q => XS.ifnullYes A B.1 rfl (pc0 := pc) rfl (hb B.2.1 hd) rfl ho hp q
theorem ifnullF (B : Bdy p meth c Z EL a0 bytes maxL ret nm) {o : Int} {a : Addr} (hd : decode bytes pc = .ok (.ifnull o, 3)) (hr : Go p l e R s m args below meth c Z EL n0 own Q S h k n pc' Ls st) (hp : pc' = pc + 3 := by rfl) : Go p l e R s m args below meth c Z EL n0 own Q S h k n pc Ls (.ref a :: st) := by
  subst hp
  exact plain hr fun T A t q => XS.ifnullNo A B.1 rfl (hb B.2.1 hd) rfl q
theorem ifnonnullT (B : Bdy p meth c Z EL a0 bytes maxL ret nm) {o : Int} {a : Addr} (hd : decode bytes pc = .ok (.ifnonnull o, 3)) (hr : Go p l e R s m args below meth c Z EL n0 own Q S h k n pc' Ls st) (ho : 0 ≤ (pc : Int) + o := by decide) (hp : ((pc : Int) + o).toNat = pc' := by decide) : Go p l e R s m args below meth c Z EL n0 own Q S h k n pc Ls (.ref a :: st) := plain hr fun T A t q => XT.ifnonnullYes A B.1 rfl (pc0 := pc) rfl (hb B.2.1 hd) rfl ho hp q
theorem ifnonnullF (B : Bdy p meth c Z EL a0 bytes maxL ret nm) {o : Int} (hd : decode bytes pc = .ok (.ifnonnull o, 3)) (hr : Go p l e R s m args below meth c Z EL n0 own Q S h k n pc' Ls st) (hp : pc' = pc + 3 := by rfl) : Go p l e R s m args below meth c Z EL n0 own Q S h k n pc Ls (.null :: st) := by
  subst hp
  exact plain hr fun T A t q => XT.ifnonnullNo A B.1 rfl (hb B.2.1 hd) rfl q

theorem callStatic (B : Bdy p meth c Z EL a0 bytes maxL ret nm) {index : Nat} {y : MethodName} {bytes' : ByteArray} {maxL' : Nat} {ret' : Option FieldType} {rm : Room} {S1 : List Addr} {Q' : Po} {argsL : List Value} {ps : List FieldType} {rt : Option FieldType} {W : Nat} (hd : decode bytes pc = .ok (.invokestatic index, 3)) (w1 : (Jvm.Cond.methodLink own index y).before a0 Z = true) (w2 : (Jvm.Cond.static y).before a0 Z = true) (w3 : (Jvm.Cond.initialized y.cls).before a0 Z = true) (w4 : (Jvm.Cond.code y bytes' maxL' ret').before a0 Z = true) 
    (hM : Con l Z EL n0 y bytes' maxL' ret' [] rm argsL.toArray S1 h Q') (hpd : parseMethodDescriptor y.desc = some ⟨ps, rt⟩)
    (hr : ∀ v h' S', Q' v h' S' → h.size ≤ h'.size → Go p l e R s m args below meth c Z EL n0 own Q (S' ++ S) h' k' n' pc' Ls (v.toList ++ rest)) (hp : pc' = pc + 3 := by rfl) (hln : argsL.length = ps.length := by rfl) (hW : (rest.map fun v => v.category).sum ≤ W := by exact Nat.le_of_eq rfl) (hf : rm.frames + 1 ≤ R.frames := by decide) (hl : W + (maxL' + 11) + rm.locals ≤ R.locals := by decide) (hk : k + rm.cells ≤ k' := by decide) (hn : n + rm.slots ≤ n' := by decide) (hkR : k' ≤ R.cells := by decide) (hnR : n' ≤ R.slots := by decide) (hsub : ∀ x ∈ S1, x ∈ S := by simp) (hsz : Ls.size = maxL := by rfl) (hst : st = argsL.reverse ++ rest := by rfl) (hy : NoH y := by decide) : Go p l e R s m args below meth c Z EL n0 own Q S h k n pc Ls st := by
  subst hp hst
  intro T ⟨locs, vm0, k0, k1, n1, q1, q2, X, eT, hS, hk0, hZ, hown, N, O, C, SL⟩
  obtain ⟨v, vm1, P, hW1, X', h2, hg, hpost, hst⟩ := callSS X B.1 (y := y) hown (mvT (s := s.setVm vm0) hZ w1) (mvT (s := s.setVm vm0) hZ w2) (mvT (s := s.setVm vm0) hZ w3) (mvT (s := s.setVm vm0) hZ w4) hy (Con.back (W := W) hM hZ w4 w3 hf hl B.2.2.2.2.2.2.1 C.1 (SL.sub hsub)) (g := mkF m pc Ls (argsL.reverse ++ rest)) rfl (by rw [B.2.2.1]; exact hsz) (argsL := argsL) (rest := rest) (lenOf hpd hln) rfl (by show 2 * 0 + _ ≤ _; omega) (hb B.2.1 hd) (fun _ _ => ⟨rfl, eT, by show k1 + _ ≤ _; omega, by show n1 + _ ≤ _; omega⟩)
  exact after hS hk0 eT q1 q2 hk hn hZ hown N C SL X' h2 hg hpost hst hr
theorem callInit (B : Bdy p meth c Z EL a0 bytes maxL ret nm) {index : Nat} {y : MethodName} {bytes' : ByteArray} {maxL' : Nat} {rm : Room} {S1 : List Addr} {Q' : Po} {argsL : List Value} {ps : List FieldType} {rt : Option FieldType} {W : Nat} {a : Addr} (hd : decode bytes pc = .ok (.invokespecial index, 3)) (w1 : (Jvm.Cond.methodLink own index y).before a0 Z = true) (w2 : (Jvm.Cond.instanceMethod y).before a0 Z = true) (w3 : (Jvm.Cond.initialized y.cls).before a0 Z = true) (w4 : (Jvm.Cond.code y bytes' maxL' none).before a0 Z = true) 
    (hM : Con l Z EL n0 y bytes' maxL' none [] rm (.ref a :: argsL).toArray S1 h Q') (hpd : parseMethodDescriptor y.desc = some ⟨ps, rt⟩)
    (hr : ∀ v h' S', Q' v h' S' → h.size ≤ h'.size → Go p l e R s m args below meth c Z EL n0 own Q (S' ++ S) h' k' n' pc' Ls (v.toList ++ rest)) (hp : pc' = pc + 3 := by rfl) (hln : argsL.length = ps.length := by rfl) (hW : (rest.map fun v => v.category).sum ≤ W := by exact Nat.le_of_eq rfl) (hf : rm.frames + 1 ≤ R.frames := by decide) (hl : W + (maxL' + 11) + rm.locals ≤ R.locals := by decide) (hk : k + rm.cells ≤ k' := by decide) (hn : n + rm.slots ≤ n' := by decide) (hkR : k' ≤ R.cells := by decide) (hnR : n' ≤ R.slots := by decide) (hsub : ∀ x ∈ S1, x ∈ S := by simp) (hsz : Ls.size = maxL := by rfl) (hst : st = argsL.reverse ++ .ref a :: rest := by rfl) (hy : NoH y := by decide) (hy1 : y.name = "<init>" := by rfl) : Go p l e R s m args below meth c Z EL n0 own Q S h k n pc Ls st := by
  subst hp hst
  intro T ⟨locs, vm0, k0, k1, n1, q1, q2, X, eT, hS, hk0, hZ, hown, N, O, C, SL⟩
  obtain ⟨v, vm1, P, hW1, X', h2, hg, hpost, hst⟩ := X.specialBackS B.1 (y := y) hy1 hown (mvT (s := s.setVm vm0) hZ w1) (mvT (s := s.setVm vm0) hZ w2) (mvT (s := s.setVm vm0) hZ w4) hy (Con.back (W := W) hM hZ w4 w3 hf hl B.2.2.2.2.2.2.1 C.1 (SL.sub hsub)) (g := mkF m pc Ls (argsL.reverse ++ .ref a :: rest)) rfl (by rw [B.2.2.1]; exact hsz) (Steps.refl _) (a := a) (argsL := argsL) (rest := rest) (lenOf hpd hln) rfl (by show 2 * 0 + _ ≤ _; omega) (hb B.2.1 hd) (fun _ _ => ⟨rfl, eT, by show k1 + _ ≤ _; omega, by show n1 + _ ≤ _; omega⟩)
  exact after hS hk0 eT q1 q2 hk hn hZ hown N C SL X' h2 hg hpost hst hr
theorem callVirtual (B : Bdy p meth c Z EL a0 bytes maxL ret nm) {index : Nat} {y : MethodName} {bytes' : ByteArray} {maxL' : Nat} {ret' : Option FieldType} {rm : Room} {S1 : List Addr} {Q' : Po} {argsL : List Value} {ps : List FieldType} {rt : Option FieldType} {W : Nat} {a : Addr} {K K' : String} {z : MethodName} (hd : decode bytes pc = .ok (.invokevirtual index, 3)) (w1 : (Jvm.Cond.methodLink own index y).before a0 Z = true) (w2 : (Jvm.Cond.declares y).before a0 Z = true) (w0 : (Jvm.Cond.selects K' y y).before a0 Z = true) (w5 : (Jvm.Cond.selects K y z).before a0 Z = true) (w6 : (Jvm.Cond.instanceMethod z).before a0 Z = true) (w3 : (Jvm.Cond.initialized z.cls).before a0 Z = true) (w4 : (Jvm.Cond.code z bytes' maxL' ret').before a0 Z = true) (E : Exa Z h a K)
    (hM : Con l Z EL n0 z bytes' maxL' ret' [] rm (.ref a :: argsL).toArray S1 h Q') (hpd : parseMethodDescriptor y.desc = some ⟨ps, rt⟩)
    (hr : ∀ v h' S', Q' v h' S' → h.size ≤ h'.size → Go p l e R s m args below meth c Z EL n0 own Q (S' ++ S) h' k' n' pc' Ls (v.toList ++ rest)) (hp : pc' = pc + 3 := by rfl) (hln : argsL.length = ps.length := by rfl) (hW : (rest.map fun v => v.category).sum ≤ W := by exact Nat.le_of_eq rfl) (hf : rm.frames + 1 ≤ R.frames := by decide) (hl : W + (maxL' + 11) + rm.locals ≤ R.locals := by decide) (hk : k + rm.cells ≤ k' := by decide) (hn : n + rm.slots ≤ n' := by decide) (hkR : k' ≤ R.cells := by decide) (hnR : n' ≤ R.slots := by decide) (hsub : ∀ x ∈ S1, x ∈ S := by simp) (hsz : Ls.size = maxL := by rfl) (hst : st = argsL.reverse ++ .ref a :: rest := by rfl) (hy : NoH y := by decide) : Go p l e R s m args below meth c Z EL n0 own Q S h k n pc Ls st := by
  subst hp hst
  intro T ⟨locs, vm0, k0, k1, n1, q1, q2, X, eT, hS, hk0, hZ, hown, N, O, C, SL⟩
  obtain ⟨cq, kq, qa, qb, qc⟩ := isOf (s := s.setVm vm0) hZ eT E
  obtain ⟨v, vm1, P, hW1, X', h2, hg, hpost, hst⟩ := X.virtualBackS B.1 (y := y) (z := z) hown (mvT (s := s.setVm vm0) hZ w1) (mvT (s := s.setVm vm0) hZ w2) (notFace_of_selects (args := #[]) (mvT (s := s.setVm vm0) hZ w0)) (mvT (s := s.setVm vm0) hZ w5) (mvT (s := s.setVm vm0) hZ w6) hy (Con.back (W := W) hM hZ w4 w3 hf hl B.2.2.2.2.2.2.1 C.1 (SL.sub hsub)) qa qc (g := mkF m pc Ls (argsL.reverse ++ .ref a :: rest)) rfl (by rw [B.2.2.1]; exact hsz) (Steps.refl _) (argsL := argsL) (rest := rest) (lenOf hpd hln) rfl (by show 2 * 0 + _ ≤ _; omega) (hb B.2.1 hd) (fun _ _ => ⟨rfl, eT, by show k1 + _ ≤ _; omega, by show n1 + _ ≤ _; omega⟩)
  exact after hS hk0 eT q1 q2 hk hn hZ hown N C SL X' h2 hg hpost hst hr
theorem selPriv {s : State} {args : Array Value} {y : MethodName} {nI : Nat} (hi : (Jvm.Cond.instanceMethod y).before args s = true) (hp : (Jvm.Cond.privateMethod y).before args s = true) (hn : (Jvm.Cond.instantiable y.cls nI).before args s = true) (hy : NoH y) : (Jvm.Cond.selects y.cls y y).before args s = true := by
  obtain ⟨mk, methM, hnamed, hmethM, hstM, habM⟩ := Cond.instanceMethod_spec hi
  obtain ⟨c, k, hc, hk, -, hfl, -⟩ := Cond.instantiable_spec hn
  have hcm : s.vm.findClass y.cls = some mk.cls := findClass_of_methodNamed hnamed
  cases hc.symm.trans hcm
  have hf := State.methodFound?_of_named hnamed hy
  have hsel := selectMethod_private (p := {}) (c := mk.cls) hmethM (Cond.privateMethod_at hp mk methM hnamed hmethM)
  simp only [Bool.or_eq_false_iff] at hfl
  simp [Cond.before, Cond.holds, Cond.value, hcm, hf, hnamed, hsel, hk, hfl.1]
theorem mvPri {Z s : State} {a0 args : Array Value} {y : MethodName} (hZ : Z.Warmed39 s.vm) (w : (Jvm.Cond.privateMethod y).before a0 Z = true) : (Jvm.Cond.privateMethod y).before args s = true := by
  have h1 : (Jvm.Cond.privateMethod y).before a0 (Z.setVm s.vm) = true := Cond.rides hZ rfl w
  exact h1
theorem callPrivate (B : Bdy p meth c Z EL a0 bytes maxL ret nm) {index : Nat} {y : MethodName} {bytes' : ByteArray} {maxL' : Nat} {ret' : Option FieldType} {rm : Room} {S1 : List Addr} {Q' : Po} {argsL : List Value} {ps : List FieldType} {rt : Option FieldType} {W : Nat} {a : Addr} {K : String} {nI : Nat} (hd : decode bytes pc = .ok (.invokevirtual index, 3)) (w1 : (Jvm.Cond.methodLink own index y).before a0 Z = true) (w6 : (Jvm.Cond.instanceMethod y).before a0 Z = true) (w5 : (Jvm.Cond.privateMethod y).before a0 Z = true) (w7 : (Jvm.Cond.instantiable y.cls nI).before a0 Z = true) (w3 : (Jvm.Cond.initialized y.cls).before a0 Z = true) (w4 : (Jvm.Cond.code y bytes' maxL' ret').before a0 Z = true) (E : Exa Z h a K)
    (hM : Con l Z EL n0 y bytes' maxL' ret' [] rm (.ref a :: argsL).toArray S1 h Q') (hpd : parseMethodDescriptor y.desc = some ⟨ps, rt⟩)
    (hr : ∀ v h' S', Q' v h' S' → h.size ≤ h'.size → Go p l e R s m args below meth c Z EL n0 own Q (S' ++ S) h' k' n' pc' Ls (v.toList ++ rest)) (hp : pc' = pc + 3 := by rfl) (hln : argsL.length = ps.length := by rfl) (hW : (rest.map fun v => v.category).sum ≤ W := by exact Nat.le_of_eq rfl) (hf : rm.frames + 1 ≤ R.frames := by decide) (hl : W + (maxL' + 11) + rm.locals ≤ R.locals := by decide) (hk : k + rm.cells ≤ k' := by decide) (hn : n + rm.slots ≤ n' := by decide) (hkR : k' ≤ R.cells := by decide) (hnR : n' ≤ R.slots := by decide) (hsub : ∀ x ∈ S1, x ∈ S := by simp) (hsz : Ls.size = maxL := by rfl) (hst : st = argsL.reverse ++ .ref a :: rest := by rfl) (hy : NoH y := by decide) : Go p l e R s m args below meth c Z EL n0 own Q S h k n pc Ls st := by
  subst hp hst
  intro T ⟨locs, vm0, k0, k1, n1, q1, q2, X, eT, hS, hk0, hZ, hown, N, O, C, SL⟩
  obtain ⟨cq, kq, qa, qb, cellB, hcell, hcls, hstat⟩ := isOf (s := s.setVm vm0) hZ eT E
  obtain ⟨v, vm1, P, hW1, X', h2, hg, hpost, hst⟩ := X.privateBackS B.1 (y := y) hown (mvT (s := s.setVm vm0) hZ w1) (mvT (s := s.setVm vm0) hZ w6) (mvT (s := s.setVm vm0) hZ (selPriv w6 w5 w7 hy)) (Cond.privateMethod_at (args := a0) (mvPri (s := s.setVm vm0) hZ w5)) (mvT (s := s.setVm vm0) hZ w4) hy (Con.back (W := W) hM hZ w4 w3 hf hl B.2.2.2.2.2.2.1 C.1 (SL.sub hsub)) (g := mkF m pc Ls (argsL.reverse ++ .ref a :: rest)) rfl (by rw [B.2.2.1]; exact hsz) (Steps.refl _) hcell (fun q e => by rw [e] at hstat; cases hstat) (argsL := argsL) (rest := rest) (lenOf hpd hln) rfl (by show 2 * 0 + _ ≤ _; omega) (hb B.2.1 hd) (fun _ _ => ⟨rfl, eT, by show k1 + _ ≤ _; omega, by show n1 + _ ≤ _; omega⟩)
  exact after hS hk0 eT q1 q2 hk hn hZ hown N C SL X' h2 hg hpost hst hr
theorem newObj (B : Bdy p meth c Z EL a0 bytes maxL ret nm) {index nn : Nat} {K : String} (hd : decode bytes pc = .ok (.new index, 3)) (w : (Jvm.Cond.classLink own index K).before a0 Z = true) (wi : (Jvm.Cond.instantiable K nn).before a0 Z = true) (wz : (Jvm.Cond.initialized K).before a0 Z = true) 
    (hr : ∀ (h' : Heap) (a : Nat), a = h.size → n0 ≤ a → Keep h h' [] → Exa Z h' a K → (∀ {O f d : String} {ty : FieldType}, Laid Z a0 K O f d → parseFieldDescriptor d = some ty → Fld Z h' a O f d (defaultValue ty)) → Go p l e R s m args below meth c Z EL n0 own Q (a :: S) h' k' n' pc' Ls (.ref a :: st)) (hp : pc' = pc + 3 := by rfl) (hk : k + 1 ≤ k' := by decide) (hn : n + nn ≤ n' := by decide) (hkR : k' ≤ R.cells := by decide) (hnR : n' ≤ R.slots := by decide) : Go p l e R s m args below meth c Z EL n0 own Q S h k n pc Ls st := by
  subst hp
  refine made (dc := 0) (dn := 0) (nn := nn) (P := fun h' => Exa Z h' h.size K ∧ ∀ (O f d : String) (ty : FieldType), Laid Z a0 K O f d → parseFieldDescriptor d = some ty → Fld Z h' h.size O f d (defaultValue ty)) hk hn ?_ (fun h' E P q => hr h' h.size rfl q (keepE E) P.1 (fun {O f d ty} a b => P.2 O f d ty a b))
  intro T vm0 locs k1 n1 q1 q2 X eT hZ hown
  obtain ⟨T', h', X', e', E, A, D, -, st⟩ := newO X B.1 hZ hown w wi wz eT (g := mkF m pc Ls st) rfl (hb B.2.1 hd) (by omega) (by omega)
  exact ⟨T', h', X', e', E, A.lt, ⟨A, fun O f d ty a b => D a b⟩, st⟩
theorem newArr (B : Bdy p meth c Z EL a0 bytes maxL ret nm) {aty : ArrayType} {z : Int32} {cap : Nat} (hd : decode bytes pc = .ok (.newarray aty, 2)) (w : (Jvm.Cond.arrayClass (newarray.typeOf aty)).before a0 Z = true) (hz : ¬ z < 0) (hcap : z.toNatClampNeg ≤ cap) 
    (hr : ∀ (h' : Heap) (a : Nat) (cA : ClassId), a = h.size → n0 ≤ a → Keep h h' [] → Arv Z h' a cA (newarray.typeOf aty) z [] (defaultValue (newarray.typeOf aty)) → Go p l e R s m args below meth c Z EL n0 own Q (a :: S) h' k' n' pc' Ls (.ref a :: rest)) (hp : pc' = pc + 2 := by rfl) (hk : k + 1 ≤ k' := by decide) (hn : n + cap ≤ n' := by decide) (hkR : k' ≤ R.cells := by decide) (hnR : n' ≤ R.slots := by decide) (hcb : cap * 8 ≤ 536870912 := by decide) : Go p l e R s m args below meth c Z EL n0 own Q S h k n pc Ls (.int z :: rest) := by
  subst hp
  refine made (dc := 0) (dn := 0) (nn := cap) (P := fun h' => ∃ cA, Arr Z h' h.size (newA cA (newarray.typeOf aty) z) (newarray.typeOf aty)) hk hn ?_ (fun h' E P q => P.elim fun cA A => hr h' h.size cA rfl q (keepE E) (Arv.new A hz))
  intro T vm0 locs k1 n1 q1 q2 X eT hZ hown
  obtain ⟨T', h', cA, X', e', E, A, st⟩ := newP X B.1 hZ w eT (g := mkF m pc Ls (.int z :: rest)) rfl (hb B.2.1 hd) (n := z) rfl hz hcap hcb (by omega) (by omega)
  exact ⟨T', h', X', e', E, A.lt, ⟨cA, A⟩, st⟩
theorem getfield (B : Bdy p meth c Z EL a0 bytes maxL ret nm) {index : Nat} {R0 O f d : String} {a : Addr} {v : Value} (hd : decode bytes pc = .ok (.getfield index, 3)) (w : (Jvm.Cond.fieldLink own index R0 f d).before a0 Z = true) (via : Via Z R0 O f d) (F : Fld Z h a O f d v) (hr : Go p l e R s m args below meth c Z EL n0 own Q S h k n pc' Ls (v :: rest)) (hp : pc' = pc + 3 := by rfl) : Go p l e R s m args below meth c Z EL n0 own Q S h k n pc Ls (.ref a :: rest) := by
  subst hp
  exact warm hr fun T vm0 locs k1 n1 X eT hZ hown _ => getF X B.1 hZ hown (host := "") (Or.inl w) via eT F (g := mkF m pc Ls (.ref a :: rest)) rfl rfl (hb B.2.1 hd)
theorem getstatic (B : Bdy p meth c Z EL a0 bytes maxL ret nm) {index : Nat} {R0 O f d : String} {v : Value} (hd : decode bytes pc = .ok (.getstatic index, 3)) (w : (Jvm.Cond.fieldLink own index R0 f d).before a0 Z = true) (via : Via Z R0 O f d) (F : Sta Z Z.heap O f d v) (hr : Go p l e R s m args below meth c Z EL n0 own Q S h k n pc' Ls (v :: st)) (hp : pc' = pc + 3 := by rfl) : Go p l e R s m args below meth c Z EL n0 own Q S h k n pc Ls st := by
  subst hp
  exact warm hr fun T vm0 locs k1 n1 X eT hZ hown O => getS X B.1 hZ hown (host := "") w via eT (F.ext O.2) (g := mkF m pc Ls st) rfl (hb B.2.1 hd)
theorem getstaticN (B : Bdy p meth c Z EL a0 bytes maxL ret nm) {index : Nat} {R0 O f d host : String} {v : Value} (hd : decode bytes pc = .ok (.getstatic index, 3)) (w : (Jvm.Cond.fieldLinkNest own index R0 f d host).before a0 Z = true) (via : Via Z R0 O f d) (F : Sta Z Z.heap O f d v) (hr : Go p l e R s m args below meth c Z EL n0 own Q S h k n pc' Ls (v :: st)) (hp : pc' = pc + 3 := by rfl) : Go p l e R s m args below meth c Z EL n0 own Q S h k n pc Ls st := by
  subst hp
  exact warm hr fun T vm0 locs k1 n1 X eT hZ hown O => getS2 X B.1 hZ hown (host := host) (Or.inr w) via eT (F.ext O.2) (g := mkF m pc Ls st) rfl (hb B.2.1 hd)
theorem putfield (B : Bdy p meth c Z EL a0 bytes maxL ret nm) {index kk : Nat} {R0 O f d K : String} {ty : FieldType} {a : Addr} {v old : Value} (hd : decode bytes pc = .ok (.putfield index, 3)) (w : (Jvm.Cond.fieldLink own index R0 f d).before a0 Z = true) (via : Via Z R0 O f d) (F : Fld Z h a O f d old) (E : Exa Z h a K) (L : (Jvm.Cond.lays K O f d).before a0 Z = true ∨ ((Jvm.Cond.laysFinal K O f d).before a0 Z = true ∧ own = O ∧ nm = "<init>")) (wi : (Jvm.Cond.instantiable K kk).before a0 Z = true)
    (hsafe : a ∈ S ∨ (K ≠ "java/lang/String" ∧ K ≠ "[B")) (hr : ∀ h', Wr h h' a (RoadKit.slotOf Z O f d) v → Go p l e R s m args below meth c Z EL n0 own Q S h' k n pc' Ls rest) (hp : pc' = pc + 3 := by rfl) (hty : parseFieldDescriptor d = some ty := by decide) (hnn : narrow ty v = v := by rfl) (hfit : fits ty v = true := by first | rfl | decide) (ha : n0 ≤ a := by omega) : Go p l e R s m args below meth c Z EL n0 own Q S h k n pc Ls (v :: .ref a :: rest) := by
  subst hp
  exact wrote ha (fun vm0 hZ SL => hsafe.elim (fun q => (SL a q).2) (fun q => Safe.exa hZ.alike E q.1 q.2)) (fun T vm0 locs k1 n1 X eT hZ hown => putF X B.1 hZ hown (host := "") (Or.inl w) via eT F E (L.imp id fun ⟨u, v, w⟩ => ⟨u, v, B.2.2.2.2.1.trans w⟩) wi hty hnn hfit (g := mkF m pc Ls (v :: .ref a :: rest)) rfl rfl (hb B.2.1 hd)) hr
theorem castore (B : Bdy p meth c Z EL a0 bytes maxL ret nm) {a : Addr} {kc : ClassId} {z j x : Int32} {vs : List Value} {dv : Value} {i : Nat} (hd : decode bytes pc = .ok (.castore, 1)) (A : Arv Z h a kc .char z vs dv) (hj : ¬ j < 0 ∧ j < z) 
    (hr : ∀ h', Keep h h' [a] → Arv Z h' a kc .char z (vs.set i (.int (nar .char x))) dv → Go p l e R s m args below meth c Z EL n0 own Q S h' k n pc' Ls rest) (hp : pc' = pc + 1 := by rfl) (ha : n0 ≤ a := by omega) (hlt : i < vs.length := by simp) (hi : j.toNatClampNeg = i := by decide) : Go p l e R s m args below meth c Z EL n0 own Q S h k n pc Ls (.int x :: .int j :: .ref a :: rest) := by
  subst hp
  obtain ⟨cl, A1, A2, A3, A4, A5, A6⟩ := A
  exact wrote ha (fun vm0 hZ SL => Safe.arr hZ.alike A1 (by decide)) (fun T vm0 locs k1 n1 X eT hZ hown => stC X B.1 hZ eT A1 (inb_of A3 hj) (g := mkF m pc Ls (.int x :: .int j :: .ref a :: rest)) rfl rfl (hb B.2.1 hd)) (fun h' W => hr h' (Keep.of_wr W) (Arv.set A1 A2 A3 A4 A5 A6 (fits_nar_char x) W i hi hlt))
theorem bastore (B : Bdy p meth c Z EL a0 bytes maxL ret nm) {a : Addr} {kc : ClassId} {z j x : Int32} {vs : List Value} {dv : Value} {i : Nat} (hd : decode bytes pc = .ok (.bastore, 1)) (A : Arv Z h a kc .byte z vs dv) (hj : ¬ j < 0 ∧ j < z) (hsafe : a ∈ S)
    (hr : ∀ h', Keep h h' [a] → Arv Z h' a kc .byte z (vs.set i (.int (nar .byte x))) dv → Go p l e R s m args below meth c Z EL n0 own Q S h' k n pc' Ls rest) (hp : pc' = pc + 1 := by rfl) (ha : n0 ≤ a := by omega) (hlt : i < vs.length := by simp) (hi : j.toNatClampNeg = i := by decide) : Go p l e R s m args below meth c Z EL n0 own Q S h k n pc Ls (.int x :: .int j :: .ref a :: rest) := by
  subst hp
  obtain ⟨cl, A1, A2, A3, A4, A5, A6⟩ := A
  exact wrote ha (fun vm0 hZ SL => (SL a hsafe).2) (fun T vm0 locs k1 n1 X eT hZ hown => stB X B.1 hZ eT A1 (inb_of A3 hj) (g := mkF m pc Ls (.int x :: .int j :: .ref a :: rest)) rfl rfl (hb B.2.1 hd)) (fun h' W => hr h' (Keep.of_wr W) (Arv.set A1 A2 A3 A4 A5 A6 (fits_nar_byte x) W i hi hlt))
theorem arrlen (B : Bdy p meth c Z EL a0 bytes maxL ret nm) {a : Addr} {kc : ClassId} {ty : FieldType} {z : Int32} {vs : List Value} {dv : Value} (hd : decode bytes pc = .ok (.arraylength, 1)) (A : Arv Z h a kc ty z vs dv) (hr : Go p l e R s m args below meth c Z EL n0 own Q S h k n pc' Ls (.int z :: rest)) (hp : pc' = pc + 1 := by rfl) : Go p l e R s m args below meth c Z EL n0 own Q S h k n pc Ls (.ref a :: rest) := by
  subst hp
  obtain ⟨cl, A1, A2, A3, A4, A5, A6⟩ := A
  exact warm hr fun T vm0 locs k1 n1 X eT hZ hown _ => ⟨T, X, eT, fun t q => X.arraylength B.1 (by rw [eT]; exact A1.1) (State.isArrayOf_alike hZ.alike A1.2.1) (g := mkF m pc Ls (.ref a :: rest)) rfl rfl (hb B.2.1 hd) t (by rw [len_of A3 A4]; exact q)⟩
theorem caload (B : Bdy p meth c Z EL a0 bytes maxL ret nm) {a : Addr} {kc : ClassId} {z j : Int32} {vs : List Value} {dv v : Value} (hd : decode bytes pc = .ok (.caload, 1)) (A : Arv Z h a kc .char z vs dv) (hj : ¬ j < 0 ∧ j < z) (hv : vs.getD j.toNatClampNeg dv = v) (hr : Go p l e R s m args below meth c Z EL n0 own Q S h k n pc' Ls (v :: rest)) (hp : pc' = pc + 1 := by rfl) : Go p l e R s m args below meth c Z EL n0 own Q S h k n pc Ls (.int j :: .ref a :: rest) := by
  subst hp
  obtain ⟨cl, A1, A2, A3, A4, A5, A6⟩ := A
  exact warm hr fun T vm0 locs k1 n1 X eT hZ hown _ => ⟨T, X, eT, fun t q => X.caload B.1 (by rw [eT]; exact A1.1) (State.isArrayOf_alike hZ.alike A1.2.1) A1.2.2 (inb_of A3 hj) (Has.at A5 (inb_of A3 hj) hv) (g := mkF m pc Ls (.int j :: .ref a :: rest)) rfl rfl (hb B.2.1 hd) t q⟩
theorem baload (B : Bdy p meth c Z EL a0 bytes maxL ret nm) {a : Addr} {kc : ClassId} {z j : Int32} {vs : List Value} {dv v : Value} (hd : decode bytes pc = .ok (.baload, 1)) (A : Arv Z h a kc .byte z vs dv) (hj : ¬ j < 0 ∧ j < z) (hv : vs.getD j.toNatClampNeg dv = v) (hr : Go p l e R s m args below meth c Z EL n0 own Q S h k n pc' Ls (v :: rest)) (hp : pc' = pc + 1 := by rfl) : Go p l e R s m args below meth c Z EL n0 own Q S h k n pc Ls (.int j :: .ref a :: rest) := by
  subst hp
  obtain ⟨cl, A1, A2, A3, A4, A5, A6⟩ := A
  exact warm hr fun T vm0 locs k1 n1 X eT hZ hown _ => ⟨T, X, eT, fun t q => X.baloadBytes B.1 (by rw [eT]; exact A1.1) (State.isArrayOf_alike hZ.alike A1.2.1) A1.2.2 (inb_of A3 hj) (Has.at A5 (inb_of A3 hj) hv) (g := mkF m pc Ls (.int j :: .ref a :: rest)) rfl rfl (hb B.2.1 hd) t q⟩
theorem aaload (B : Bdy p meth c Z EL a0 bytes maxL ret nm) {a : Addr} {kc : ClassId} {ty : FieldType} {z j : Int32} {vs : List Value} {dv v : Value} (hd : decode bytes pc = .ok (.aaload, 1)) (hty : ty.isReference = true) (A : Arv Z h a kc ty z vs dv) (hj : ¬ j < 0 ∧ j < z) (hv : vs.getD j.toNatClampNeg dv = v) (hr : Go p l e R s m args below meth c Z EL n0 own Q S h k n pc' Ls (v :: rest)) (hp : pc' = pc + 1 := by rfl) : Go p l e R s m args below meth c Z EL n0 own Q S h k n pc Ls (.int j :: .ref a :: rest) := by
  subst hp
  obtain ⟨cl, A1, A2, A3, A4, A5, A6⟩ := A
  exact warm hr fun T vm0 locs k1 n1 X eT hZ hown _ => ⟨T, X, eT, fun t q => X.aaload B.1 (by rw [eT]; exact A1.1) (State.isArrayOf_alike hZ.alike A1.2.1) hty A1.2.2 (inb_of A3 hj) (Has.at A5 (inb_of A3 hj) hv) (g := mkF m pc Ls (.int j :: .ref a :: rest)) rfl rfl (hb B.2.1 hd) t q⟩
theorem checkcast (B : Bdy p meth c Z EL a0 bytes maxL ret nm) {index : Nat} {K : String} {a : Addr} (hd : decode bytes pc = .ok (.checkcast index, 3)) (w : (Jvm.Cond.classLink own index K).before a0 Z = true) (F : Ins Z h a K true) (hr : Go p l e R s m args below meth c Z EL n0 own Q S h k n pc' Ls (.ref a :: rest)) (hp : pc' = pc + 3 := by rfl) : Go p l e R s m args below meth c Z EL n0 own Q S h k n pc Ls (.ref a :: rest) := by
  subst hp
  exact warm hr fun T vm0 locs k1 n1 X eT hZ hown _ => castY X B.1 hZ hown w eT F (g := mkF m pc Ls (.ref a :: rest)) rfl rfl (hb B.2.1 hd)
theorem instYes (B : Bdy p meth c Z EL a0 bytes maxL ret nm) {index : Nat} {K : String} {a : Addr} (hd : decode bytes pc = .ok (.instanceof index, 3)) (w : (Jvm.Cond.classLink own index K).before a0 Z = true) (F : Ins Z h a K true) (hr : Go p l e R s m args below meth c Z EL n0 own Q S h k n pc' Ls (.int 1 :: rest)) (hp : pc' = pc + 3 := by rfl) : Go p l e R s m args below meth c Z EL n0 own Q S h k n pc Ls (.ref a :: rest) := by
  subst hp
  exact warm hr fun T vm0 locs k1 n1 X eT hZ hown _ => instY X B.1 hZ hown w eT F (g := mkF m pc Ls (.ref a :: rest)) rfl rfl (hb B.2.1 hd)
theorem objInit (B : Bdy p meth c Z EL a0 bytes maxL ret nm) {index W : Nat} {a : Addr} (hd : decode bytes pc = .ok (.invokespecial index, 3)) (w1 : (Jvm.Cond.methodLink own index Lib.objectInit).before a0 Z = true) (w2 : (Jvm.Cond.instanceMethod Lib.objectInit).before a0 Z = true) (w3 : (Jvm.Cond.code Lib.objectInit ⟨#[0xb1]⟩ 1 none).before a0 Z = true) (hr : Go p l e R s m args below meth c Z EL n0 own Q S h k n pc' Ls rest) (hp : pc' = pc + 3 := by rfl) (hsz : Ls.size = maxL := by rfl) (hW : (rest.map fun v => v.category).sum ≤ W := by exact Nat.le_of_eq rfl) (hf : 1 ≤ R.frames := by decide) (hl : W + 12 ≤ R.locals := by decide) : Go p l e R s m args below meth c Z EL n0 own Q S h k n pc Ls (.ref a :: rest) := by
  subst hp
  exact warm hr fun T vm0 locs k1 n1 X eT hZ hown _ => initO X B.1 hZ hown w1 w2 w3 eT (g := mkF m pc Ls (.ref a :: rest)) rfl (by rw [B.2.2.1]; exact hsz) rfl (hb B.2.1 hd) hf (W := W) (by show 2 * 0 + _ ≤ _; omega) hl
theorem ldcText (B : Bdy p meth c Z EL a0 bytes maxL ret nm) {index nn : Nat} {text : String} (hd : decode bytes pc = .ok (.ldc index, 2)) (w : (Jvm.Cond.stringLink own index text).before a0 Z = true) (hmem : (own, index) ∈ EL) {vs : List Value} {z : Int32} (ht : (∀ c ∈ text.toList, c.toNat < 256) ∧ text.toList.map (fun c => Value.int (Jvm.Lit.byteI c.toNat.toUInt16)) = vs) (hz : ¬ z < 0) (hlz : z.toNatClampNeg = vs.length) 
    (hr : ∀ (h' : Heap) (a b : Nat) (kb : ClassId), Keep h h' [] → Exa Z h' a "java/lang/String" → Fld Z h' a "java/lang/String" "coder" "B" (.int 0) → Fld Z h' a "java/lang/String" "value" "[B" (.ref b) → Arv Z h' b kb .byte z vs (.int 0) → (∀ x ∈ S, x ≠ a ∧ x ≠ b) → Go p l e R s m args below meth c Z EL n0 own Q S h' k' n' pc' Ls (.ref a :: st)) (hp : pc' = pc + 2 := by rfl) (hk : k + 2 ≤ k' := by decide) (hn : n + (nn + 4) ≤ n' := by decide) (hkR : k' ≤ R.cells := by decide) (hnR : n' ≤ R.slots := by decide) (hnn : 4 * text.toList.length ≤ nn := by decide) (hbig : nn ≤ 536870912 := by decide) : Go p l e R s m args below meth c Z EL n0 own Q S h k n pc Ls st := by
  subst hp
  intro T ⟨locs, vm0, k0, k1, n1, q1, q2, X, eT, hS, hk0, hZ, hown, N, O, C, SL⟩
  obtain ⟨a, T', h', k2, b, kb, X', e', E, hS', hk', hZ', hown', f1, f2, f3, f4, -, -, C', -, ne, sp⟩ := ldcCH (EL := EL) X B.1 hZ hown w B.2.2.2.2.2.2.2 eT hS hk0 B.2.2.2.2.2.2.1 hmem C.1 ht hz hlz (g := mkF m pc Ls st) rfl (hb B.2.1 hd) hnn hbig (by omega) (by omega)
  have SL' := SL.chr C'
  obtain ⟨s2, o, q, r2⟩ := hr h' a b kb (keepE E) f1 f2 f3 f4 (fun x hx => ne x (SL' x hx).2) T' ⟨locs, T'.vm, k2, k1 + 2, n1 + (nn + 4), by omega, by omega, X', e', hS', hk', hZ', hown', N, O.ext E, C.trans C', SL'⟩
  exact ⟨s2, o, sp _ q, r2⟩
theorem finish (B : Bdy p meth c Z EL a0 bytes maxL ret nm) {v : Option Value} (hv : ret = none → v = none) (hQ : Q v h S') 
    (sp : ∀ (s' T : State) (locs : List Loc) (k1 n1 : Nat) (fs : List Frame), Stand p l e R s' m args below meth c T locs k1 n1 → (∀ (f : JFrame) (acts : List Action), f.method = m → f.locked = none → f.entered = [] → (doReturn e (T.setTop f) acts v).1 = T.setFrames fs) → Steps p.tables e below (T.setTop (mkF m pc Ls st)) (T.setFrames fs)) (hkR : k ≤ R.cells := by decide) (hnR : n ≤ R.slots := by decide) (hsub : ∀ x ∈ S', x ∈ S := by simp) : Go p l e R s m args below meth c Z EL n0 own Q S h k n pc Ls st := by
  intro T ⟨locs, vm0, k0, k1, n1, q1, q2, X, eT, hS, hk0, hZ, hown, N, O, C, SL⟩
  obtain ⟨fs, hr, hrun, hended, hE⟩ := X.leaveW (v := v) hS (by rw [eT]; exact hk0) (fun z => hv (B.2.2.2.1.symm.trans z)) B.2.2.2.2.2.1
  have A := CHv.at X hZ B.2.2.2.2.2.2.1 C.1
  subst eT
  exact ⟨_, _, sp _ T locs k1 n1 fs X hr, hrun, hended, v, locs, S', rfl, ⟨hQ, N, O, (SL.chr A).sub hsub⟩, C.trans A, hE.1, hE.2.1, hE.2.2.1, hE.2.2.2.mono (by omega) (by omega)⟩
theorem retV (B : Bdy p meth c Z EL a0 bytes maxL ret nm) (hd : decode bytes pc = .ok (.return_, 1)) (hQ : Q none h S') (hkR : k ≤ R.cells := by decide) (hnR : n ≤ R.slots := by decide) (hret : ret = none := by rfl) (hsub : ∀ x ∈ S', x ∈ S := by simp) : Go p l e R s m args below meth c Z EL n0 own Q S h k n pc Ls [] :=
  finish B (fun _ => rfl) hQ (fun s' T locs k1 n1 fs X hr => X.returnOut B.1 (B.2.2.2.1.trans hret) (hb B.2.1 hd) hr) hkR hnR hsub
theorem retA (B : Bdy p meth c Z EL a0 bytes maxL ret nm) {t : FieldType} {w : Value} (hd : decode bytes pc = .ok (.areturn, 1)) (hQ : Q (some w) h S') (hkR : k ≤ R.cells := by decide) (hnR : n ≤ R.slots := by decide) (hret : ret = some t := by rfl) (hsub : ∀ x ∈ S', x ∈ S := by simp) (hw : w.isRef = true := by rfl) (hnn : narrow t w = w := by rfl) (ht : t.isReference = true := by rfl) : Go p l e R s m args below meth c Z EL n0 own Q S h k n pc Ls (w :: rest) :=
  finish B (fun z => by rw [hret] at z; cases z) hQ (fun s' T locs k1 n1 fs X hr => retOut X B.1 (B.2.2.2.1.trans hret) hnn (Or.inr (Or.inr (Or.inr (Or.inr ⟨rfl, ht, hw⟩)))) (hb B.2.1 hd) hr) hkR hnR hsub
theorem retI (B : Bdy p meth c Z EL a0 bytes maxL ret nm) {t : FieldType} {w : Int32} (hd : decode bytes pc = .ok (.ireturn, 1)) (hQ : Q (some (.int w)) h S') (hkR : k ≤ R.cells := by decide) (hnR : n ≤ R.slots := by decide) (hret : ret = some t := by rfl) (hsub : ∀ x ∈ S', x ∈ S := by simp) (hnn : narrow t (.int w) = .int w := by rfl) (ht : t = .int ∨ t = .boolean ∨ t = .byte ∨ t = .char ∨ t = .short := by simp) : Go p l e R s m args below meth c Z EL n0 own Q S h k n pc Ls (.int w :: rest) :=
  finish B (fun z => by rw [hret] at z; cases z) hQ (fun s' T locs k1 n1 fs X hr => retOut X B.1 (B.2.2.2.1.trans hret) hnn (Or.inl ⟨rfl, ht, _, rfl⟩) (hb B.2.1 hd) hr) hkR hnR hsub
theorem acmpR (B : Bdy p meth c Z EL a0 bytes maxL ret nm) {cd : ACond} {x y : Value} {o : Int} {same : Bool} (hd : decode bytes pc = .ok (.if_acmp cd o, 3)) (hq : decide (x = y) = same) (hr : Go p l e R s m args below meth c Z EL n0 own Q S h k n pc' Ls rest) (ho : 0 ≤ (pc : Int) + o := by decide) (hp : pc' = if acV cd same = true then ((pc : Int) + o).toNat else pc + 3 := by decide) (h1 : x.isRef = true := by rfl) (h2 : y.isRef = true := by rfl) : Go p l e R s m args below meth c Z EL n0 own Q S h k n pc Ls (y :: x :: rest) :=
  warm hr fun T vm0 locs k1 n1 X eT hZ hown _ => ⟨T, X, eT, fun t q => acmp X B.1 rfl h1 h2 (g := mkF m pc Ls (y :: x :: rest)) (pc0 := pc) rfl (hb B.2.1 hd) rfl hq ho hp q⟩
def Str (Z : State) (h : Heap) (a t : Addr) (kb : ClassId) (cod z : Int32) (vs : List Value) : Prop := Exa Z h a "java/lang/String" ∧ Fld Z h a "java/lang/String" "coder" "B" (.int cod) ∧ Fld Z h a "java/lang/String" "value" "[B" (.ref t) ∧ Arv Z h t kb .byte z vs (.int 0)
def Rng (cs : List Int32) : Prop := ∀ x ∈ cs, ¬ x < (0 : Int32) ∧ ¬ (65535 : Int32) < x
def Lat (cs : List Int32) : Prop := ∀ x ∈ cs, ¬ (255 : Int32) < x
def Chs (Z : State) (h : Heap) (a t : Addr) (kb : ClassId) (cs : List Int32) : Prop := Exa Z h a "java/lang/String" ∧ Fld Z h a "java/lang/String" "value" "[B" (.ref t) ∧ Rng cs ∧
  ((Fld Z h a "java/lang/String" "coder" "B" (.int 0) ∧ Arv Z h t kb .byte (Int32.ofNat cs.length) (cs.map fun x => .int x.toInt8.toInt32) (.int 0) ∧ Lat cs) ∨
   (Fld Z h a "java/lang/String" "coder" "B" (.int 1) ∧ Arv Z h t kb .byte (Int32.ofNat (2 * cs.length)) (cs.flatMap fun x => [.int x.toInt8.toInt32, .int (x >>> ((8 : Int32) &&& 31)).toInt8.toInt32]) (.int 0) ∧ ∃ x ∈ cs, (255 : Int32) < x))
theorem Chs.keep {a t : Addr} {kb : ClassId} {cs : List Int32} {ws : List Addr} (F : Chs Z h a t kb cs) (K : Keep h h' ws) (qa : a ∉ ws) (qt : t ∉ ws) : Chs Z h' a t kb cs := by
  obtain ⟨E, V, r, ⟨C, A, L⟩ | ⟨C, A, L⟩⟩ := F
  · exact ⟨E.keep K, V.keep K qa, r, Or.inl ⟨C.keep K qa, A.keep K qt, L⟩⟩
  · exact ⟨E.keep K, V.keep K qa, r, Or.inr ⟨C.keep K qa, A.keep K qt, L⟩⟩
theorem Chs.lt {a t : Addr} {kb : ClassId} {cs : List Int32} (F : Chs Z h a t kb cs) : a < h.size := F.1.lt
theorem Chs.ltt {a t : Addr} {kb : ClassId} {cs : List Int32} (F : Chs Z h a t kb cs) : t < h.size := by
  obtain ⟨E, V, r, ⟨C, A, L⟩ | ⟨C, A, L⟩⟩ := F
  · exact A.lt
  · exact A.lt
def Glo (Z : State) (cz : Int32) (sf : Value) : Prop := Sta Z Z.heap "java/lang/String" "COMPACT_STRINGS" "Z" (.int cz) ∧ cz ≠ 0 ∧ Sta Z Z.heap "jdk/internal/util/Preconditions" "SIOOBE_FORMATTER" "Ljava/util/function/BiFunction;" sf ∧ sf.isRef = true
theorem nnAnd (x y : Int32) : (x &&& y).toBitVec.toNat ≤ y.toBitVec.toNat := by
  have : (x &&& y).toBitVec.toNat = x.toBitVec.toNat &&& y.toBitVec.toNat := by simp
  rw [this]; exact Nat.and_le_right
theorem toInt_small {x : Int32} {n : Nat} (h : x.toBitVec.toNat ≤ n) (hn : n < 2147483648) : x.toInt = x.toBitVec.toNat := by
  show x.toBitVec.toInt = _
  rw [BitVec.toInt_eq_toNat_of_lt (by omega)]
/-- x &&& y for y from 0: from 0 to y -/
theorem and_rng (x : Int32) {y : Int32} {n : Nat} (hy : y.toBitVec.toNat = n) (hn : n < 2147483648) : 0 ≤ (x &&& y).toInt ∧ (x &&& y).toInt ≤ n := by
  have h := nnAnd x y
  rw [hy] at h
  have := toInt_small h hn
  omega
theorem and3 (x : Int32) : x &&& 3 = 0 ∨ x &&& 3 = 1 ∨ x &&& 3 = 2 ∨ x &&& 3 = 3 := by
  have k := and_rng x (y := 3) (n := 3) (by decide) (by decide)
  have k : (x &&& 3).toInt = 0 ∨ (x &&& 3).toInt = 1 ∨ (x &&& 3).toInt = 2 ∨ (x &&& 3).toInt = 3 := by omega
  exact k.imp Int32.toInt_inj.mp (Or.imp Int32.toInt_inj.mp (Or.imp Int32.toInt_inj.mp Int32.toInt_inj.mp))
theorem i2c_idem (x : Int32) : (x.toUInt32.toUInt16.toUInt32.toInt32).toUInt32.toUInt16.toUInt32.toInt32 = x.toUInt32.toUInt16.toUInt32.toInt32 := by
  have h : ∀ u : UInt16, u.toUInt32.toInt32.toUInt32.toUInt16 = u := fun u => by simp
  rw [h]
theorem cnar {x c : Int32} (hc : x.toUInt32.toUInt16.toUInt32.toInt32 = c) : nar .char c = c := by subst hc; exact i2c_idem x
theorem cnarrow {c : Int32} (hc : nar .char c = c) : narrow .char (.int c) = .int c := congrArg Value.int hc
theorem rng255 {x : Int32} (h0 : ¬ x < (0 : Int32)) (h1 : ¬ (255 : Int32) < x) : 0 ≤ x.toInt ∧ x.toInt ≤ 255 := by
  rw [Int32.lt_iff_toInt_lt, show (0 : Int32).toInt = 0 from by decide] at h0
  rw [Int32.lt_iff_toInt_lt, show (255 : Int32).toInt = 255 from by decide] at h1
  omega
theorem ofRng {x : Int32} {n : Nat} (hn : n < 2147483648) (h : 0 ≤ x.toInt ∧ x.toInt ≤ n) : ∃ k : Nat, k ≤ n ∧ x = Int32.ofNat k := by
  refine ⟨x.toInt.toNat, by omega, Int32.toInt_inj.mp ?_⟩
  rw [Int32.toInt_ofNat_of_lt (by omega)]; omega
theorem all256 (P : Int32 → Bool) (h : (List.range 256).all (fun k => P (Int32.ofNat k)) = true) {x : Int32} (h0 : ¬ x < (0 : Int32)) (h1 : ¬ (255 : Int32) < x) : P x = true := by
  obtain ⟨k, hk, rfl⟩ := ofRng (n := 255) (by decide) (by have := rng255 h0 h1; omega)
  exact List.all_eq_true.mp h k (List.mem_range.mpr (by omega))
theorem b255 {x : Int32} (h0 : ¬ x < (0 : Int32)) (h1 : ¬ (255 : Int32) < x) : x.toInt8.toInt32 &&& 255 = x := by
  have := all256 (fun x => x.toInt8.toInt32 &&& 255 == x) (by decide +kernel) h0 h1
  exact eq_of_beq this
theorem c_id {x : Int32} (h0 : ¬ x < (0 : Int32)) (h1 : ¬ (255 : Int32) < x) : x.toUInt32.toUInt16.toUInt32.toInt32 = x := by
  have := all256 (fun x => x.toUInt32.toUInt16.toUInt32.toInt32 == x) (by decide +kernel) h0 h1
  exact eq_of_beq this
theorem nar_id {x : Int32} (h0 : ¬ x < (0 : Int32)) (h1 : ¬ (255 : Int32) < x) : nar .char x = x := c_id h0 h1
theorem toNat_rng {x : Int32} {n : Nat} (h0 : 0 ≤ x.toInt) (h1 : x.toInt ≤ n) (hn : n < 2147483648) : x.toBitVec.toNat ≤ n := by
  have e : x.toInt = x.toBitVec.toInt := rfl
  rw [e] at h0 h1
  have hlt := x.toBitVec.isLt
  rw [BitVec.toInt_eq_toNat_cond] at h0 h1
  split at h0 <;> omega
theorem nar_b (x : Int32) : nar .byte x.toInt8.toInt32 = x.toInt8.toInt32 := by simp [nar]
theorem Go.loop {α : Type} {pc1 : Nat} (I : Nat → α → Heap → Prop) (F : α → Array Slot) (hs : ∀ i x h, I i x h → (∀ j y h', j < i → I j y h' → Go p l e R s m args below meth c Z EL n0 own Q S h' k n pc1 (F y) []) → Go p l e R s m args below meth c Z EL n0 own Q S h k n pc1 (F x) []) (i : Nat) (x : α) (h0 : I i x h) : Go p l e R s m args below meth c Z EL n0 own Q S h k n pc1 (F x) [] := by
  have H : ∀ t i x h, i < t → I i x h → Go p l e R s m args below meth c Z EL n0 own Q S h k n pc1 (F x) [] := by
    intro t
    induction t with
    | zero => intro i x h q; exact absurd q (Nat.not_lt_zero _)
    | succ t ih => intro i x h q r; exact hs i x h r fun j y h' q' r' => ih j y h' (by omega) r'
  exact H (i + 1) i x h (Nat.lt_succ_self _) h0
def UI (u : Slot) : Prop := u = .unset ∨ ∃ y : Int32, u = .val (.int y)
theorem nI {i : Nat} (hi : i < 2147483648) : (Int32.ofNat i).toInt = i := Int32.toInt_ofNat_of_lt hi
theorem nlt {i n : Nat} (hi : i < 2147483648) (hn : n < 2147483648) : (Int32.ofNat i < Int32.ofNat n) ↔ i < n := by
  rw [Int32.lt_iff_toInt_lt, nI hi, nI hn]; omega
theorem nlT {i n : Nat} (h : i < n) (hn : n ≤ 128 := by omega) : Int32.ofNat i < Int32.ofNat n := (nlt (by omega) (by omega)).mpr h
theorem nlF {i n : Nat} (h : ¬ i < n) (hi : i ≤ 128 := by omega) : ¬ Int32.ofNat i < Int32.ofNat n := fun q => h ((nlt (by omega) (by omega)).mp q)
theorem nc {i : Nat} (hi : i ≤ 128 := by omega) : (Int32.ofNat i).toNatClampNeg = i := by
  simp only [Int32.toNatClampNeg, nI (i := i) (by omega)]; omega
theorem nn {i : Nat} (hi : i ≤ 128 := by omega) : ¬ Int32.ofNat i < 0 := by
  rw [Int32.lt_iff_toInt_lt, nI (by omega)]; simp
theorem nS (i : Nat) : Int32.ofNat i + 1 = Int32.ofNat (i + 1) := by
  rw [Int32.ofNat_add]; rfl
theorem tk {α : Type} {l : List α} {i : Nat} {b z : α} (h : l[i]? = some b) : (l.take i ++ [z]).set i b = l.take (i + 1) := by
  obtain ⟨hi, rfl⟩ := List.getElem?_eq_some_iff.mp h
  rw [List.take_add_one, h]
  simp [Nat.min_eq_left (Nat.le_of_lt hi)]
theorem pad1 {α : Type} (l : List α) (dv : α) : ∀ i, (l ++ [dv]).getD i dv = l.getD i dv := fun i => by
  simp only [List.getD_eq_getElem?_getD]
  by_cases q : i < l.length
  · rw [List.getElem?_append_left q]
  · rw [List.getElem?_append_right (Nat.le_of_not_lt q), List.getElem?_eq_none (Nat.le_of_not_lt q)]
    cases i - l.length <;> simp
theorem gD {α : Type} {l : List α} {i : Nat} {b dv : α} (h : l[i]? = some b) : l.getD i dv = b := by rw [List.getD_eq_getElem?_getD, h]; rfl
abbrev CA (cs : List Int32) : List Value := cs.map Value.int
abbrev LB (cs : List Int32) : List Value := cs.map fun x => .int x.toInt8.toInt32
theorem CAa {cs : List Int32} {j : Nat} {x : Int32} (h : cs[j]? = some x) : (CA cs)[j]? = some (.int x) := by simp [CA, h]
theorem LBa {cs : List Int32} {j : Nat} {x : Int32} (h : cs[j]? = some x) : (LB cs)[j]? = some (.int x.toInt8.toInt32) := by simp [LB, h]
theorem take1 {cs : List Int32} {j : Nat} {x : Int32} {P : Int32 → Prop} (h : cs[j]? = some x) (a : ∀ y ∈ cs.take j, P y) (b : P x) : ∀ y ∈ cs.take (j + 1), P y := by
  intro y hy
  rw [List.take_add_one, h] at hy
  rcases List.mem_append.mp hy with q | q
  · exact a y q
  · simp at q; exact q ▸ b
theorem takeN {α : Type} {l : List α} {n : Nat} (h : l.length ≤ n) : l.take n = l := List.take_of_length_le h
theorem cal0' : ∀ i < 65, Jvm.Free.XT.ushr (Int32.ofNat i - Int32.ofNat i) 31 = 0 := by decide +kernel
theorem cal0 {i : Nat} (h : i ≤ 64 := by omega) : Jvm.Free.XT.ushr (Int32.ofNat i - Int32.ofNat i) 31 = 0 := cal0' i (by omega)
theorem Chs.nil {a t : Addr} {kb : ClassId} (E : Exa Z h a "java/lang/String") (V : Fld Z h a "java/lang/String" "value" "[B" (.ref t)) (C : Fld Z h a "java/lang/String" "coder" "B" (.int 0)) (A : Arv Z h t kb .byte 0 [] (.int 0)) : Chs Z h a t kb [] := ⟨E, V, fun _ q => (nomatch q), Or.inl ⟨C, A, fun _ q => (nomatch q)⟩⟩
theorem nz {i : Nat} (h : Int32.ofNat i = 0) (hi : i ≤ 128) : i = 0 := by
  have := congrArg Int32.toInt h
  rw [nI (by omega)] at this
  have e : (0 : Int32).toInt = 0 := rfl
  omega
abbrev sl {α : Type} (cs : List α) (i n : Nat) : List α := (cs.drop i).take n
theorem Chs.lat {a t : Addr} {kb : ClassId} {cs : List Int32} (F : Chs Z h a t kb cs) (hL : Lat cs) : Fld Z h a "java/lang/String" "coder" "B" (.int 0) ∧ Arv Z h t kb .byte (Int32.ofNat cs.length) (LB cs) (.int 0) := by
  rcases F.2.2.2 with ⟨c, A, _⟩ | ⟨_, _, y, u1, u2⟩
  · exact ⟨c, A⟩
  · exact absurd u2 (hL y u1)
theorem andN (x : Int32) {y : Int32} {n : Nat} (hy : y.toBitVec.toNat = n) (hn : n < 2147483648) : ∃ k : Nat, k ≤ n ∧ x &&& y = Int32.ofNat k := ofRng hn (and_rng x hy hn)
theorem Rng.app {cs ds : List Int32} (a : Rng cs) (b : Rng ds) : Rng (cs ++ ds) := fun y q => (List.mem_append.mp q).elim (a y) (b y)
theorem Lat.app {cs ds : List Int32} (a : Lat cs) (b : Lat ds) : Lat (cs ++ ds) := fun y q => (List.mem_append.mp q).elim (a y) (b y)
/-- as Con.enter, and the method's own name and the site's words are known -/
theorem Con.enterM {y : MethodName} {ws : List Jvm.Cond} {rm : Room} {as' : Array Value} (hpl : plainFor y = true) (hO : Old Z n0 h) (hEW : EW Z a0 EL) (hwS : ∀ w ∈ Bundle.stringAtoms, w.before a0 Z = true)
    (body : ∀ (p : Program) (e : Env) (s : State) (m : MethodId) (below : List Frame) (meth : Method) (c : Code), Bdy p meth c Z EL a0 bytes maxL ret y.name → Z.methodNamed? y = some m → e.platform.lambdaLinkWords = 3072 → Go p l e rm s m as' below meth c Z EL n0 y.cls Q S h 0 0 0 Ls [])
    (hef : ∀ m : MethodId, entryFrame m as' maxL = mkF m 0 Ls [] := by intro m; first | rfl | (simp [entryFrame, mkF, argsToLocals, Value.category]; done)) :
    Con l Z EL n0 y bytes maxL ret ws rm as' S h Q := by
  refine MetFree.of_bodySF hpl hisR ?_
  intro p e s m args below meth c s₁ Bd hml0 hP hK
  obtain ⟨rfl, hZ, rfl, hC, hS⟩ := hP
  have X0 : Stand p l e rm s m args below meth c s₁ [] 0 0 := Stand.of_body Bd
  have hown : s.vm.findClass y.cls = some m.cls := findClass_of_methodNamed Bd.named
  have hnm := (name_of_methodNamed Bd.named Bd.method).1
  have e0 : s₁.heap = s.heap := by rw [Bd.state]; rfl
  have hmz : Z.methodNamed? y = some m := (State.methodNamed?_setVm (s := Z) hZ.alike y).symm.trans Bd.named
  rw [hef m]
  exact body p e s m below meth c ⟨Bd.exec, Bd.bytes, hml0, Bd.returns, hnm, Bd.notSynchronized, hEW, hwS⟩ hmz (by rw [Bd.admits.platform]) s₁ ⟨[], s.vm, s.heap.size, 0, 0, Nat.le_refl _, Nat.le_refl _, X0, e0, (State.WarmedH.refl s).since _, Nat.le_refl _, hZ, hown, Fr.nil _, hO, CHr.refl hC, hS⟩
/-- a lambda's site that captures one object -/
theorem indy (B : Bdy p meth c Z EL a0 bytes maxL ret nm) {y : MethodName} {index : Nat} {σ : Lambda.Shape} {T0 : String} {a : Nat} {W : Nat} (hd : decode bytes pc = .ok (.invokedynamic index, 5)) (hm : Z.methodNamed? y = some m) (hpw : e.platform.lambdaLinkWords = 3072) (w : (Jvm.Cond.lambdaSite y pc index σ).before a0 Z = true) (wo : (Jvm.Cond.instantiable "java/lang/Object" 0).before a0 Z = true)
    (hlay : ((σ.file y.cls).bind (layoutFields · 0)).map (·.2.1) = some #[.object T0])
    (hr : ∀ (h' : Heap) (a' : Nat), a' = h.size → n0 ≤ a' → Keep h h' [] → a' < h'.size → Go p l e R s m args below meth c Z EL n0 own Q (a' :: S) h' k' n' pc' Ls (.ref a' :: rest)) (hp : pc' = pc + 5 := by rfl) (hk : k + 1 ≤ k' := by decide) (hn : n + 1 ≤ n' := by decide) (hkR : k' ≤ R.cells := by decide) (hnR : n' ≤ R.slots := by decide) (hcp : σ.captured ≠ [] := by decide) (hcl : 1 = σ.captured.length := by rfl) (hsz : Ls.size = maxL := by rfl) (hW : (rest.map fun v => v.category).sum = W := by rfl) (hlo : W + 3073 ≤ R.locals := by decide) : Go p l e R s m args below meth c Z EL n0 own Q S h k n pc Ls (.ref a :: rest) := by
  subst hp
  refine made (dc := 0) (dn := 0) (nn := 1) (P := fun h' => h.size < h'.size) hk hn ?_ (fun h' E P q => hr h' h.size rfl q (keepE E) P)
  intro T vm0 locs k1 n1 q1 q2 X eT hZ hown
  obtain ⟨cK, one, hat⟩ := Cond.lambdaSite_spec w
  obtain ⟨m', kS, cfS, i0, p0, lk, hm', hkS, hcfS, hshape, -, hfind, hmade, hcan, hlk⟩ := State.lambdaAt?_spec hat
  cases hm.symm.trans hm'
  obtain ⟨rfl, rfl, -⟩ : lk = .makes cK ∧ one = none ∧ σ.captured ≠ [] := by
    rcases hlk with ⟨a, cell, -, -, h, -⟩ | h
    · exact absurd h hcp
    · exact h
  obtain ⟨kS', hkS', hnameS⟩ := className_of_methodNamed hm
  cases hkS.symm.trans hkS'
  obtain ⟨bsm, nt, desc, site, hc, hnt, hsite, hpar⟩ := Lambda.shapeOf?_site hshape
  obtain ⟨kK, hkK, htyK, hkindK, -⟩ := Lambda.made_types hmade hkS wo (by rw [hnameS]; exact hlay)
  obtain ⟨kS2, hkS2, heS⟩ := hZ.alike.2.2 _ _ hkS
  obtain ⟨kK2, hkK2, heK⟩ := hZ.alike.2.2 _ _ hkK
  have hty2 : kK2.instanceTypes = #[.object T0] := by rw [heK]; exact htyK
  have hkind2 : kK2.kind = .ordinary := by rw [heK]; exact hkindK
  have hslotsE : ((kK2.instanceTypes.toList.zip [(.ref a : Value)]).map fun (t, v) => narrow t v) = [.ref a] := by
    rw [hty2]
    simp [narrow]
  subst eT
  obtain ⟨X1, st1⟩ := X.lambdaMakes B.1 (g := mkF m pc Ls (.ref a :: rest)) rfl (by rw [B.2.2.1]; exact hsz) (hb B.2.1 hd) (vals := [.ref a]) (rest := rest)
    hkS2 (by rw [heS]; exact hfind) (by rw [heS]; exact hcfS) hc hnt (parseLong_of_parse hsite) (by rw [hpar]; exact hcl) rfl hkK2
    (by rw [hpw]; show 2 * 0 + ((1 :: rest.map fun v => v.category).sum) + 3072 ≤ _; rw [List.sum_cons, hW]; omega) (by omega) (by rw [hslotsE]; show n1 + 1 ≤ _; omega)
    (fun i v hv => by
      rw [hslotsE] at hv
      match i, hv with
      | 0, hv => simp at hv; subst hv; simp [State.fitsSlot, State.slotType?, (show vm0.classes[cK]? = some kK2 from hkK2), hkind2, hty2, fits]
      | k + 1, hv => simp at hv)
  rw [hslotsE] at X1 st1
  refine ⟨_, _, X1, rfl, ⟨by show T.heap.size ≤ (T.heap.push _).size; simp, fun x c h => ?_⟩, by show T.heap.size < (T.heap.push _).size; simp, by show T.heap.size < (T.heap.push _).size; simp, st1⟩
  show (T.heap.push _)[x]? = _
  rw [Array.getElem?_push_lt (Array.getElem?_eq_some_iff.mp h).1]; exact (Array.getElem?_eq_getElem _).symm.trans h
theorem newArrR (B : Bdy p meth c Z EL a0 bytes maxL ret nm) {index : Nat} {C : String} {z : Int32} {cap : Nat} (hd : decode bytes pc = .ok (.anewarray index, 3)) (w1 : (Jvm.Cond.classLink own index C).before a0 Z = true) (w2 : (Jvm.Cond.arrayOver (.object C)).before a0 Z = true) (hz : ¬ z < 0) (hcap : z.toNatClampNeg ≤ cap)
    (hr : ∀ (h' : Heap) (a : Nat) (cA : ClassId), a = h.size → n0 ≤ a → Keep h h' [] → Arv Z h' a cA (.object C) z [] .null → Ovr Z cA C → Go p l e R s m args below meth c Z EL n0 own Q (a :: S) h' k' n' pc' Ls (.ref a :: rest)) (hp : pc' = pc + 3 := by rfl) (hk : k + 1 ≤ k' := by decide) (hn : n + cap ≤ n' := by decide) (hkR : k' ≤ R.cells := by decide) (hnR : n' ≤ R.slots := by decide) (hcb : cap * 8 ≤ 536870912 := by decide) : Go p l e R s m args below meth c Z EL n0 own Q S h k n pc Ls (.int z :: rest) := by
  subst hp
  refine made (dc := 0) (dn := 0) (nn := cap) (P := fun h' => ∃ cA, Arr Z h' h.size (newA cA (.object C) z) (.object C) ∧ Ovr Z cA C) hk hn ?_ (fun h' E P q => P.elim fun cA A => hr h' h.size cA rfl q (keepE E) (Arv.new A.1 hz) A.2)
  intro T vm0 locs k1 n1 q1 q2 X eT hZ hown
  obtain ⟨T', h', cA, X', e', E, A, O, st⟩ := newR X B.1 hZ hown w1 w2 eT (g := mkF m pc Ls (.int z :: rest)) rfl (hb B.2.1 hd) (n := z) rfl hz hcap hcb (by omega) (by omega)
  exact ⟨T', h', X', e', E, A.lt, ⟨cA, A, O⟩, st⟩
theorem aastore (B : Bdy p meth c Z EL a0 bytes maxL ret nm) {a y : Nat} {kc : ClassId} {C : String} {z j : Int32} {vs : List Value} {dv : Value} {i : Nat} (hd : decode bytes pc = .ok (.aastore, 1)) (A : Arv Z h a kc (.object C) z vs dv) (O : Ovr Z kc C) (I : Ins Z h y C true) (hj : ¬ j < 0 ∧ j < z)
    (hr : ∀ h', Keep h h' [a] → Arv Z h' a kc (.object C) z (vs.set i (.ref y)) dv → Go p l e R s m args below meth c Z EL n0 own Q S h' k n pc' Ls rest) (hp : pc' = pc + 1 := by rfl) (ha : n0 ≤ a := by omega) (hlt : i < vs.length := by simp) (hi : j.toNatClampNeg = i := by decide) : Go p l e R s m args below meth c Z EL n0 own Q S h k n pc Ls (.ref y :: .int j :: .ref a :: rest) := by
  subst hp
  obtain ⟨cl, A1, A2, A3, A4, A5, A6⟩ := A
  exact wrote ha (fun vm0 hZ SL => Safe.arr hZ.alike A1 (fun q => nomatch q)) (fun T vm0 locs k1 n1 X eT hZ hown => stR X B.1 hZ eT A1 (inb_of A3 hj) rfl (Sto.of A1 (A2 ▸ O) I) (g := mkF m pc Ls (.ref y :: .int j :: .ref a :: rest)) rfl rfl (hb B.2.1 hd)) (fun h' W => hr h' (Keep.of_wr W) (Arv.set A1 A2 A3 A4 A5 A6 rfl W i hi hlt))
theorem ldcIntW (B : Bdy p meth c Z EL a0 bytes maxL ret nm) {index : Nat} {x : Int32} (hd : decode bytes pc = .ok (.ldc_w index, 3)) (w : (Jvm.Cond.constant own index x).before a0 Z = true) (hr : Go p l e R s m args below meth c Z EL n0 own Q S h k n pc' Ls (.int x :: st)) (hp : pc' = pc + 3 := by rfl) : Go p l e R s m args below meth c Z EL n0 own Q S h k n pc Ls st := by
  subst hp
  exact warm hr fun T vm0 locs k1 n1 X eT hZ hown _ => ⟨T, X, eT, fun t q => X.ldcWInt B.1 hown (mvT (s := s.setVm vm0) hZ w) (g := mkF m pc Ls st) rfl (hb B.2.1 hd) t q⟩
theorem castNull (B : Bdy p meth c Z EL a0 bytes maxL ret nm) {index : Nat} (hd : decode bytes pc = .ok (.checkcast index, 3)) (hr : Go p l e R s m args below meth c Z EL n0 own Q S h k n pc' Ls (.null :: rest)) (hp : pc' = pc + 3 := by rfl) : Go p l e R s m args below meth c Z EL n0 own Q S h k n pc Ls (.null :: rest) := by
  subst hp
  exact warm hr fun T vm0 locs k1 n1 X eT hZ hown _ => ⟨T, X, eT, fun t q => X.checkcastNull B.1 (g := mkF m pc Ls (.null :: rest)) rfl rfl (hb B.2.1 hd) t q⟩
theorem tsw (B : Bdy p meth c Z EL a0 bytes maxL ret nm) {dflt low high : Int} {offs : Array Int} {len : Nat} {o : Int} {i : Int32} (hd : decode bytes pc = .ok (.tableswitch dflt low high offs, len)) (hin : ¬ (i.toInt < low ∨ i.toInt > high)) (hoff : offs[(i.toInt - low).toNat]? = some o) (hr : Go p l e R s m args below meth c Z EL n0 own Q S h k n pc' Ls st) (ho : 0 ≤ (pc : Int) + o := by decide) (hp : ((pc : Int) + o).toNat = pc' := by decide) : Go p l e R s m args below meth c Z EL n0 own Q S h k n pc Ls (.int i :: st) := plain hr fun T A t q => XS.tswIn A B.1 rfl (pc0 := pc) rfl (hb B.2.1 hd) rfl hin hoff ho hp q
set_option maxHeartbeats 4000000 in
theorem ldcTextW (B : Bdy p meth c Z EL a0 bytes maxL ret nm) {index nn : Nat} {text : String} (hd : decode bytes pc = .ok (.ldc_w index, 3)) (w : (Jvm.Cond.stringLink own index text).before a0 Z = true) (hmem : (own, index) ∈ EL) {vs : List Value} {z : Int32} (ht : (∀ c ∈ text.toList, c.toNat < 256) ∧ text.toList.map (fun c => Value.int (Jvm.Lit.byteI c.toNat.toUInt16)) = vs) (hz : ¬ z < 0) (hlz : z.toNatClampNeg = vs.length)
    (hr : ∀ (h' : Heap) (a b : Nat) (kb : ClassId), Keep h h' [] → Exa Z h' a "java/lang/String" → Fld Z h' a "java/lang/String" "coder" "B" (.int 0) → Fld Z h' a "java/lang/String" "value" "[B" (.ref b) → Arv Z h' b kb .byte z vs (.int 0) → (∀ x ∈ S, x ≠ a ∧ x ≠ b) → Go p l e R s m args below meth c Z EL n0 own Q S h' k' n' pc' Ls (.ref a :: st)) (hp : pc' = pc + 3 := by rfl) (hk : k + 2 ≤ k' := by decide) (hn : n + (nn + 4) ≤ n' := by decide) (hkR : k' ≤ R.cells := by decide) (hnR : n' ≤ R.slots := by decide) (hnn : 4 * text.toList.length ≤ nn := by decide) (hbig : nn ≤ 536870912 := by decide) : Go p l e R s m args below meth c Z EL n0 own Q S h k n pc Ls st := by
  subst hp
  intro T ⟨locs, vm0, k0, k1, n1, q1, q2, X, eT, hS, hk0, hZ, hown, N, O, C, SL⟩
  subst eT
  have hal0 := X.warmed.alike
  have hZT : Z.Warmed39 T.vm := wtrans (s := s.setVm vm0) hZ X.warmed
  have hfT : T.vm.findClass own = some m.cls := by rw [hal0.findClass]; exact hown
  have A := CHv.at X hZ B.2.2.2.2.2.2.1 C.1
  obtain ⟨kc, cf, i, u, hkc, hcf, hc, hu, hnm, hdec, hres⟩ := Cond.stringLink_spec (s := Wst Z T.vm T.heap) hfT (mvS (s := { Z with heap := T.heap }) (args := args) hZT w)
  have hlat := Jvm.ClassFile.lat_of_text hdec ht.1
  have hsz : (stringBytes u).size ≤ nn := Nat.le_trans (text_bytes_le hdec) hnn
  have fin : ∀ (a : Addr) (T2 : State), Stand p l e R (s.setVm T2.vm) m args below meth c T2 locs (k1 + 2) (n1 + (nn + 4)) → (s.setVm vm0).Since T2.vm T2.heap.size → Ext T.heap T2.heap → CHr Z EL T.vm T.heap T2.vm T2.heap → Booksv T2.vm own index u a →
      (∀ t, Steps p.tables e below (T2.setTop (mkF m (pc + 3) Ls (.ref a :: st))) t → Steps p.tables e below (T.setTop (mkF m pc Ls st)) t) → Fnl p e R s below Z EL n0 Q (T.setTop (mkF m pc Ls st)) := by
    intro a T2 X2 hS2 E C2 hB sp
    obtain ⟨q, rfl, F⟩ := SlB.of (C2.1 _ hmem u a hB)
    have hW2 : Z.Warmed39 T2.vm := State.Warmed39.trans (t := s.setVm vm0) hZ hS2.1
    obtain ⟨f1, f2, f3, f4⟩ := slRead hW2.alike F hlat (by rw [← ht.2, Jvm.ClassFile.units_of_text hdec ht.1, List.map_map]; rfl) hz hlz
    have SL' := SL.chr (A.trans C2)
    obtain ⟨s2, o, r, r2⟩ := hr T2.heap q.sa q.sd q.SA.cls (keepE E) f1 f2 f3 f4 (fun x hx => ⟨fun y => (SL' x hx).2 ⟨_, hmem, u, _, hB, q, rfl, F, Or.inl y⟩, fun y => (SL' x hx).2 ⟨_, hmem, u, _, hB, q, rfl, F, Or.inr y⟩⟩) T2
      ⟨locs, T2.vm, T2.heap.size, k1 + 2, n1 + (nn + 4), by omega, by omega, X2, rfl, hS.trans hS2 (Nat.le_trans hk0 E.1), Nat.le_refl _, hW2, by rw [hS2.1.alike.findClass]; exact hown, N, O.ext E, C.trans (A.trans C2), SL'⟩
    exact ⟨s2, o, sp _ r, r2⟩
  rcases hres with h0 | ⟨a, h0⟩
  · have note : ∀ (a : Addr) (T1 : State) (vm1 : Vm), T.Warmed39 vm1 → vm1.classes[m.cls]? = some kc → vm1.interned.find? (fun p => p.1 == u) = some (u, a) → Stand p l e R (s.setVm vm0) m args below meth c T1 locs (k1 + 2) (n1 + (nn + 4)) → Ext T.heap T1.heap →
        (vm1.interned = T.vm.interned ∨ ∃ b : Addr, vm1.interned = T.vm.interned.push (u, b) ∧ T.heap.size ≤ b ∧ b < T1.heap.size ∧ T.vm.interned.find? (fun p => p.1 == u) = none ∧ ∃ q : Jvm.Free.SB.SQ, q.sa = b ∧ SlB (Wst Z (vm1.noted m.cls index (.string a)) T1.heap) q u ∧ T.heap.size ≤ q.sa ∧ T.heap.size ≤ q.sd) →
        (∀ t, Steps p.tables e below ((T1.setVm (vm1.noted m.cls index (.string a))).setTop (mkF m (pc + 3) Ls (.ref a :: st))) t → Steps p.tables e below (T.setTop (mkF m pc Ls st)) t) → Fnl p e R s below Z EL n0 Q (T.setTop (mkF m pc Ls st)) := by
      intro a T1 vm1 hT1 hk1 hf1 X1 E hint sp
      have hTN : T.Warmed39 (vm1.noted m.cls index (.string a)) := hT1.notedString hkc (Or.inl h0) (by rw [hcf]; exact hnm) (by rw [hcf]; exact hc) (by rw [hcf]; simp [ConstantPool.utf8?, hu]) hf1
      have hW : (s.setVm vm0).Warmed39 (vm1.noted m.cls index (.string a)) := State.Warmed39.trans (t := T) X.warmed.wide hTN
      have L := CHv.later (vm := T.vm) (vm1 := vm1.noted m.cls index (.string a)) hZT (show (Wst Z T.vm T.heap).Warmed39 _ from hTN) B.2.2.2.2.2.2.1 E (hint.imp id fun ⟨b, e1, _, _, e4, e5⟩ => ⟨u, b, e1, e4, fun _ => e5⟩) A.1
      exact fin a (T1.setVm (vm1.noted m.cls index (.string a))) (X1.retabled hW) ⟨hW, State.Booked.step (X.warmed.no_new_pair _) X.same.2.1 ⟨E.1, hint.imp id fun ⟨b, e1, e2, e3, _⟩ => ⟨u, b, e1, e2, e3⟩⟩⟩ E ⟨L.1, E.1, L.2⟩
        ⟨m.cls, _, cf, i, by rw [show (T1.setVm (vm1.noted m.cls index (.string a))).vm = vm1.noted m.cls index (.string a) from rfl, hTN.alike.findClass]; exact hfT, Vm.classes_note_self index (.string a) hk1, hcf, hc, hu, Or.inl (Class.resolved_note_self (.string a) h0)⟩ sp
    cases hf : T.vm.interned.find? (fun p => p.1 == u) with
    | some pr =>
      obtain ⟨u', a⟩ := pr
      obtain rfl : u' = u := by simpa using Array.find?_some hf
      refine note a T T.vm (State.Warmed39.refl T) hkc hf (X.mono (by omega) (by omega)) (extRefl _) (Or.inl rfl) fun t q => ?_
      jvm_step X.here [B.1, hb B.2.1 hd, ldc_w.wp_string_found (e := e) (s := T) (f := mkF m pc Ls st) X.here.top hkc hcf hc hu h0 hf]
      exact q
    | none =>
      have hat := atomsAt (s := s.setVm T.vm) (args := args) hZT B.2.2.2.2.2.2.2
      obtain ⟨D, LD, h4, fitv, fitc⟩ := StringT.of_atoms hat
      have hH := wsHeap T D.cB D.cS D.kS D.fv D.fc u
      have b1 : (bytesOf D.cB u).slots.size = (stringBytes u).size := by rw [(Cell.writeAll_facts _ _).2.2]; simp [bytes0]
      have b2 : (stringAt D.cS D.kS D.fv D.fc u T.heap.size).slots.size = 4 := by simp [string0, Cell.setSlot, h4]
      have X2 := ((X.pushed (bytesOf D.cB u)).pushed (stringAt D.cS D.kS D.fv D.fc u T.heap.size)).mono (cells' := k1 + 2) (slots' := n1 + (nn + 4)) (by omega) (by rw [b1, b2]; omega)
      rw [← withString_eq] at X2
      have hfind : (T.vm.interned.push (u, T.heap.size + 1)).find? (fun p => p.1 == u) = some (u, T.heap.size + 1) := by rw [Array.find?_push, hf]; simp
      have hT1 := (State.Warmed39.refl T).interns u (T.heap.size + 1)
      have hE : Ext T.heap (withString T D.cB D.cS D.kS D.fv D.fc u).heap := ext_of fun x hx => by rw [hH]; simp [Array.getElem?_push, Nat.ne_of_lt hx, show x ≠ T.heap.size + 1 by omega]
      have c1 : (withString T D.cB D.cS D.kS D.fv D.fc u).heap[T.heap.size]? = some (bytesOf D.cB u) := by rw [hH]; simp [Array.getElem?_push]
      have c2 : (withString T D.cB D.cS D.kS D.fv D.fc u).heap[T.heap.size + 1]? = some (stringAt D.cS D.kS D.fv D.fc u T.heap.size) := by rw [hH, Array.getElem?_push, Array.size_push]; simp
      have hms := made_sl (args := args) (s := s.setVm T.vm) (W := Wst Z (({ T.vm with interned := T.vm.interned.push (u, T.heap.size + 1) } : Vm).noted m.cls index (.string (T.heap.size + 1))) (withString T D.cB D.cS D.kS D.fv D.fc u).heap) hat LD h4 rfl
        (hT1.alike.noted m.cls index (.string (T.heap.size + 1))) (n := T.heap.size) (units := u) c1 c2 hlat (by omega) 0
      obtain ⟨q, cS, g1, g2, g3, g4, g5, g6⟩ := hms
      have g7 : T.heap.size ≤ q.sa ∧ T.heap.size ≤ q.sd := g6.elim (fun y => absurd y.1 (Nat.not_lt_zero _)) id
      refine note (T.heap.size + 1) (withString T D.cB D.cS D.kS D.fv D.fc u) { T.vm with interned := T.vm.interned.push (u, T.heap.size + 1) } hT1 hkc hfind X2 hE
        (Or.inr ⟨T.heap.size + 1, rfl, by omega, by rw [hH]; simp, hf, q, g1, ⟨cS, g2, g3, g4, g5⟩, g7⟩) fun t r => ?_
      have hfs : T.fitsSlot = (s.setVm T.vm).fitsSlot := rfl
      have hroom := X.slotsAbove (show n1 + (nn + 4) ≤ R.slots by omega)
      refine Steps.instr (c := _) (by simpa using X.here) ?_
      simp [jvm, wpRun, exec, X.here.top, B.1, hb B.2.1 hd]
      refine ldc_w.wp_string_new (e := e) (s := T) (f := mkF m pc Ls st) X.here.top hkc hcf hc hu h0 hf LD.found LD.cls LD.initialized LD.ordinary LD.foundB LD.clsB LD.kindB LD.value LD.coder (by rw [Launch.admits_arrayLengthLimit X.admits]; omega)
        (by rw [Launch.admits_maxHeapBytes X.admits]; simp only [componentBytes]; omega) (X.cellsAbove (by omega)) (by show T.slotsUsed + (stringBytes u).size + D.kS.instanceTypes.size ≤ _; rw [h4]; omega)
        (stringBytes_fit LD.clsB LD.kindB u) LD.valueSlot LD.coderSlot (by rw [hfs]; exact fitv _) (by rw [hfs]; exact fitc _) (fun d' acts' acts'' => ?_)
      have t1 : (withString T D.cB D.cS D.kS D.fv D.fc u).topJava?.isSome := by simpa [withString] using X.here.top
      simp [jvm, afterInstr, t1]
      rw [State.modifyTopJava_setTop]
      exact r
  · refine fin a T ((X.mono (by omega) (by omega)).retabled X.warmed.wide) (X.warmed.since _) (extRefl _) (CHr.refl A.1) ⟨m.cls, kc, cf, i, hfT, hkc, hcf, hc, hu, Or.inl h0⟩ fun t q => ?_
    jvm_step X.here [B.1, hb B.2.1 hd, ldc_w.wp_string (e := e) (s := T) (f := mkF m pc Ls st) X.here.top hkc hcf hc h0]
    exact q
end Rules
end Jvm.Ow
namespace Jvm.Pilot.@@N@@
open Jvm Jvm.ClassFile Sem Op Lib Jvm.Free Jvm.Stand Jvm.LawKit Jvm.RoadKit Bundle Jvm.Pilot.@@N@@.Jvm.D
abbrev EL1 : List (String × Nat) := [("com/example/ply3/ply3/Target", 17), ("java/lang/String", 761)]
abbrev Hw (a0 : Array Value) (Z : State) : Prop := ∀ d ∈ tables_1, d.before a0 Z = true
abbrev my0 : MethodName := { cls := "java/lang/StringUTF16", name := "compress", desc := "([CI[BII)I" }
abbrev my1 : MethodName := { cls := "java/lang/StringUTF16", name := "compress", desc := "([CII)[B" }
abbrev my2 : MethodName := { cls := "java/lang/StringUTF16", name := "coderFromArrayLen", desc := "([BI)B" }
abbrev my3 : MethodName := { cls := "java/lang/String", name := "<init>", desc := "([CIILjava/lang/Void;)V" }
abbrev my4 : MethodName := { cls := "java/lang/String", name := "<init>", desc := "([C)V" }
abbrev my5 : MethodName := { cls := "com/example/ply3/ply3/NavigatorInternalRedirectPinLaw", name := "ch", desc := "(I)C" }
abbrev my6 : MethodName := { cls := "com/example/ply3/ply3/NavigatorInternalRedirectPinLaw", name := "name", desc := "(I)Ljava/lang/String;" }
abbrev my7 : MethodName := { cls := "java/lang/StringLatin1", name := "equals", desc := "([B[B)Z" }
abbrev my8 : MethodName := { cls := "java/lang/String", name := "equals", desc := "(Ljava/lang/Object;)Z" }
abbrev my9 : MethodName := { cls := "java/lang/String", name := "coder", desc := "()B" }
abbrev my10 : MethodName := { cls := "java/lang/String", name := "length", desc := "()I" }
abbrev my11 : MethodName := { cls := "jdk/internal/util/ArraysSupport", name := "mismatch", desc := "([BI[BII)I" }
abbrev my12 : MethodName := { cls := "java/lang/String", name := "startsWith", desc := "(Ljava/lang/String;I)Z" }
abbrev my13 : MethodName := { cls := "java/lang/String", name := "startsWith", desc := "(Ljava/lang/String;)Z" }
abbrev my14 : MethodName := { cls := "java/lang/String", name := "endsWith", desc := "(Ljava/lang/String;)Z" }
abbrev my15 : MethodName := { cls := "jdk/internal/util/Preconditions", name := "checkFromToIndex", desc := "(IIILjava/util/function/BiFunction;)I" }
abbrev my16 : MethodName := { cls := "java/lang/String", name := "checkBoundsBeginEnd", desc := "(III)V" }
abbrev my17 : MethodName := { cls := "java/lang/String", name := "substring", desc := "(II)Ljava/lang/String;" }
abbrev my18 : MethodName := { cls := "com/example/ply3/ply3/Target", name := "name", desc := "(Ljava/lang/String;)Ljava/lang/String;" }
abbrev my19 : MethodName := { cls := "java/lang/String", name := "isLatin1", desc := "()Z" }
abbrev my20 : MethodName := { cls := "jdk/internal/util/Preconditions", name := "checkIndex", desc := "(IILjava/util/function/BiFunction;)I" }
abbrev my21 : MethodName := { cls := "java/lang/String", name := "checkIndex", desc := "(II)V" }
abbrev my22 : MethodName := { cls := "java/lang/StringLatin1", name := "charAt", desc := "([BI)C" }
abbrev my23 : MethodName := { cls := "java/lang/String", name := "charAt", desc := "(I)C" }
abbrev my24 : MethodName := { cls := "java/lang/StringLatin1", name := "canEncode", desc := "(I)Z" }
abbrev my25 : MethodName := { cls := "java/lang/Math", name := "max", desc := "(II)I" }
abbrev my26 : MethodName := { cls := "java/lang/Math", name := "min", desc := "(II)I" }
abbrev my27 : MethodName := { cls := "java/lang/StringLatin1", name := "indexOfChar", desc := "([BIII)I" }
abbrev my28 : MethodName := { cls := "java/lang/StringLatin1", name := "indexOf", desc := "([BIII)I" }
abbrev my29 : MethodName := { cls := "java/lang/String", name := "indexOf", desc := "(II)I" }
abbrev my30 : MethodName := { cls := "java/lang/String", name := "indexOf", desc := "(I)I" }
abbrev my31 : MethodName := { cls := "java/util/AbstractCollection", name := "<init>", desc := "()V" }
abbrev my32 : MethodName := { cls := "java/util/AbstractList", name := "<init>", desc := "()V" }
abbrev my33 : MethodName := { cls := "java/util/ArrayList", name := "<init>", desc := "()V" }
abbrev my34 : MethodName := { cls := "java/lang/String", name := "split", desc := "(CIZ)[Ljava/lang/String;" }
abbrev my35 : MethodName := { cls := "java/lang/String", name := "split", desc := "(Ljava/lang/String;IZ)[Ljava/lang/String;" }
abbrev my36 : MethodName := { cls := "java/lang/String", name := "split", desc := "(Ljava/lang/String;I)[Ljava/lang/String;" }
abbrev my37 : MethodName := { cls := "java/lang/String", name := "isEmpty", desc := "()Z" }
abbrev my38 : MethodName := { cls := "com/example/ply3/ply3/Target", name := "isAllowed", desc := "(C)Z" }
abbrev my39 : MethodName := { cls := "com/example/ply3/ply3/Target", name := "isSegment", desc := "(Ljava/lang/String;)Z" }
abbrev my40 : MethodName := { cls := "com/example/ply3/ply3/Target", name := "firstInvalid", desc := "([Ljava/lang/String;)I" }
abbrev my41 : MethodName := { cls := "java/util/ImmutableCollections$AbstractImmutableCollection", name := "<init>", desc := "()V" }
abbrev my42 : MethodName := { cls := "java/util/ImmutableCollections$AbstractImmutableList", name := "<init>", desc := "()V" }
abbrev my43 : MethodName := { cls := "java/util/Objects", name := "requireNonNull", desc := "(Ljava/lang/Object;)Ljava/lang/Object;" }
abbrev my44 : MethodName := { cls := "java/util/ImmutableCollections$List12", name := "<init>", desc := "(Ljava/lang/Object;)V" }
abbrev my45 : MethodName := { cls := "java/util/List", name := "of", desc := "([Ljava/lang/Object;)Ljava/util/List;" }
abbrev my46 : MethodName := { cls := "com/example/ply3/ply3/Target", name := "<init>", desc := "(Ljava/lang/String;Ljava/util/List;)V" }
abbrev my47 : MethodName := { cls := "java/util/Optional", name := "<init>", desc := "(Ljava/lang/Object;)V" }
abbrev my48 : MethodName := { cls := "java/util/Optional", name := "of", desc := "(Ljava/lang/Object;)Ljava/util/Optional;" }
abbrev my49 : MethodName := { cls := "com/example/ply3/ply3/Target", name := "parse", desc := "(Ljava/lang/String;)Ljava/util/Optional;" }
abbrev my50 : MethodName := { cls := "java/util/Optional", name := "orElseThrow", desc := "(Ljava/util/function/Supplier;)Ljava/lang/Object;" }
abbrev my51 : MethodName := { cls := "com/example/ply3/ply3/Navigator", name := "parse", desc := "(Ljava/lang/String;)Lcom/example/ply3/ply3/Target;" }
abbrev my52 : MethodName := { cls := "com/example/ply3/ply3/Navigator", name := "redirectTo", desc := "(Ljava/lang/String;)V" }
abbrev my53 : MethodName := { cls := "com/example/ply3/ply3/NavigatorInternalRedirectPinLaw", name := "call", desc := "(Lcom/example/ply3/ply3/Navigator;ZLjava/lang/String;)V" }
abbrev my54 : MethodName := { cls := "com/example/ply3/ply3/Navigator", name := "internalRedirectTo", desc := "(Ljava/lang/String;)V" }
abbrev my55 : MethodName := { cls := "com/example/ply3/ply3/Navigator", name := "<init>", desc := "()V" }
abbrev my56 : MethodName := { cls := "java/util/Optional", name := "empty", desc := "()Ljava/util/Optional;" }
abbrev my57 : MethodName := { cls := "com/example/ply3/ply3/Navigator", name := "internalRedirect", desc := "()Ljava/util/Optional;" }
abbrev my58 : MethodName := { cls := "java/util/Optional", name := "orElse", desc := "(Ljava/lang/Object;)Ljava/lang/Object;" }
abbrev my59 : MethodName := { cls := "java/util/Optional", name := "ofNullable", desc := "(Ljava/lang/Object;)Ljava/util/Optional;" }
abbrev my60 : MethodName := { cls := "com/example/ply3/ply3/Target", name := "name", desc := "()Ljava/lang/String;" }
theorem w0 {a0 : Array Value} {Z : State} (hw : Hw a0 Z) : (Jvm.Cond.methodLink "com/example/ply3/ply3/NavigatorInternalRedirectPinLaw" (7 : Nat) ({ cls := "com/example/ply3/ply3/NavigatorInternalRedirectPinLaw", name := "name", desc := "(I)Ljava/lang/String;" } : Jvm.MethodName)).before a0 Z = true := hw _ (List.mem_of_getElem? (i := 0) rfl)
theorem w1 {a0 : Array Value} {Z : State} (hw : Hw a0 Z) : (Jvm.Cond.static ({ cls := "com/example/ply3/ply3/NavigatorInternalRedirectPinLaw", name := "name", desc := "(I)Ljava/lang/String;" } : Jvm.MethodName)).before a0 Z = true := hw _ (List.mem_of_getElem? (i := 1) rfl)
theorem w2 {a0 : Array Value} {Z : State} (hw : Hw a0 Z) : (Jvm.Cond.initialized "com/example/ply3/ply3/NavigatorInternalRedirectPinLaw").before a0 Z = true := hw _ (List.mem_of_getElem? (i := 2) rfl)
theorem w3 {a0 : Array Value} {Z : State} (hw : Hw a0 Z) : (Jvm.Cond.code ({ cls := "com/example/ply3/ply3/NavigatorInternalRedirectPinLaw", name := "name", desc := "(I)Ljava/lang/String;" } : Jvm.MethodName) method_5_code (1 : Nat) (Option.some (Jvm.ClassFile.FieldType.object "java/lang/String"))).before a0 Z = true := hw _ (List.mem_of_getElem? (i := 3) rfl)
theorem w4 {a0 : Array Value} {Z : State} (hw : Hw a0 Z) : (Jvm.Cond.classLink "com/example/ply3/ply3/NavigatorInternalRedirectPinLaw" (36 : Nat) "java/lang/String").before a0 Z = true := hw _ (List.mem_of_getElem? (i := 4) rfl)
theorem w5 {a0 : Array Value} {Z : State} (hw : Hw a0 Z) : (Jvm.Cond.instantiable "java/lang/String" (4 : Nat)).before a0 Z = true := hw _ (List.mem_of_getElem? (i := 5) rfl)
theorem w6 {a0 : Array Value} {Z : State} (hw : Hw a0 Z) : (Jvm.Cond.initialized "java/lang/String").before a0 Z = true := hw _ (List.mem_of_getElem? (i := 6) rfl)
theorem w7 {a0 : Array Value} {Z : State} (hw : Hw a0 Z) : (Jvm.Cond.arrayClass Jvm.ClassFile.FieldType.char).before a0 Z = true := hw _ (List.mem_of_getElem? (i := 7) rfl)
theorem w8 {a0 : Array Value} {Z : State} (hw : Hw a0 Z) : (Jvm.Cond.methodLink "com/example/ply3/ply3/NavigatorInternalRedirectPinLaw" (48 : Nat) ({ cls := "com/example/ply3/ply3/NavigatorInternalRedirectPinLaw", name := "ch", desc := "(I)C" } : Jvm.MethodName)).before a0 Z = true := hw _ (List.mem_of_getElem? (i := 8) rfl)
theorem w9 {a0 : Array Value} {Z : State} (hw : Hw a0 Z) : (Jvm.Cond.static ({ cls := "com/example/ply3/ply3/NavigatorInternalRedirectPinLaw", name := "ch", desc := "(I)C" } : Jvm.MethodName)).before a0 Z = true := hw _ (List.mem_of_getElem? (i := 9) rfl)
theorem w10 {a0 : Array Value} {Z : State} (hw : Hw a0 Z) : (Jvm.Cond.code ({ cls := "com/example/ply3/ply3/NavigatorInternalRedirectPinLaw", name := "ch", desc := "(I)C" } : Jvm.MethodName) method_4_code (2 : Nat) (Option.some Jvm.ClassFile.FieldType.char)).before a0 Z = true := hw _ (List.mem_of_getElem? (i := 10) rfl)
theorem w11 {a0 : Array Value} {Z : State} (hw : Hw a0 Z) : (Jvm.Cond.methodLink "com/example/ply3/ply3/NavigatorInternalRedirectPinLaw" (52 : Nat) ({ cls := "java/lang/String", name := "<init>", desc := "([C)V" } : Jvm.MethodName)).before a0 Z = true := hw _ (List.mem_of_getElem? (i := 11) rfl)
theorem w12 {a0 : Array Value} {Z : State} (hw : Hw a0 Z) : (Jvm.Cond.instanceMethod ({ cls := "java/lang/String", name := "<init>", desc := "([C)V" } : Jvm.MethodName)).before a0 Z = true := hw _ (List.mem_of_getElem? (i := 12) rfl)
theorem w13 {a0 : Array Value} {Z : State} (hw : Hw a0 Z) : (Jvm.Cond.code ({ cls := "java/lang/String", name := "<init>", desc := "([C)V" } : Jvm.MethodName) jdk_42_method_3_code (2 : Nat) (Option.none : Option Jvm.ClassFile.FieldType)).before a0 Z = true := hw _ (List.mem_of_getElem? (i := 13) rfl)
theorem w14 {a0 : Array Value} {Z : State} (hw : Hw a0 Z) : (Jvm.Cond.methodLink "java/lang/String" (27 : Nat) ({ cls := "java/lang/String", name := "<init>", desc := "([CIILjava/lang/Void;)V" } : Jvm.MethodName)).before a0 Z = true := hw _ (List.mem_of_getElem? (i := 14) rfl)
theorem w15 {a0 : Array Value} {Z : State} (hw : Hw a0 Z) : (Jvm.Cond.instanceMethod ({ cls := "java/lang/String", name := "<init>", desc := "([CIILjava/lang/Void;)V" } : Jvm.MethodName)).before a0 Z = true := hw _ (List.mem_of_getElem? (i := 15) rfl)
theorem w17 {a0 : Array Value} {Z : State} (hw : Hw a0 Z) : (Jvm.Cond.code ({ cls := "java/lang/String", name := "<init>", desc := "([CIILjava/lang/Void;)V" } : Jvm.MethodName) jdk_42_method_149_code (6 : Nat) (Option.none : Option Jvm.ClassFile.FieldType)).before a0 Z = true := hw _ (List.mem_of_getElem? (i := 17) rfl)
theorem w18 {a0 : Array Value} {Z : State} (hw : Hw a0 Z) : (Jvm.Cond.methodLink "java/lang/String" (1 : Nat) ({ cls := "java/lang/Object", name := "<init>", desc := "()V" } : Jvm.MethodName)).before a0 Z = true := hw _ (List.mem_of_getElem? (i := 18) rfl)
theorem w19 {a0 : Array Value} {Z : State} (hw : Hw a0 Z) : (Jvm.Cond.instanceMethod ({ cls := "java/lang/Object", name := "<init>", desc := "()V" } : Jvm.MethodName)).before a0 Z = true := hw _ (List.mem_of_getElem? (i := 19) rfl)
theorem w20 {a0 : Array Value} {Z : State} (hw : Hw a0 Z) : (Jvm.Cond.code ({ cls := "java/lang/Object", name := "<init>", desc := "()V" } : Jvm.MethodName) object_method_1_code (1 : Nat) (Option.none : Option Jvm.ClassFile.FieldType)).before a0 Z = true := hw _ (List.mem_of_getElem? (i := 20) rfl)
theorem w21 {a0 : Array Value} {Z : State} (hw : Hw a0 Z) : (Jvm.Cond.fieldLink "java/lang/String" (38 : Nat) "java/lang/String" "COMPACT_STRINGS" "Z").before a0 Z = true := hw _ (List.mem_of_getElem? (i := 21) rfl)
theorem w22 {a0 : Array Value} {Z : State} (hw : Hw a0 Z) : (Jvm.Cond.methodLink "java/lang/String" (177 : Nat) ({ cls := "java/lang/StringUTF16", name := "compress", desc := "([CII)[B" } : Jvm.MethodName)).before a0 Z = true := hw _ (List.mem_of_getElem? (i := 22) rfl)
theorem w23 {a0 : Array Value} {Z : State} (hw : Hw a0 Z) : (Jvm.Cond.static ({ cls := "java/lang/StringUTF16", name := "compress", desc := "([CII)[B" } : Jvm.MethodName)).before a0 Z = true := hw _ (List.mem_of_getElem? (i := 23) rfl)
theorem w24 {a0 : Array Value} {Z : State} (hw : Hw a0 Z) : (Jvm.Cond.initialized "java/lang/StringUTF16").before a0 Z = true := hw _ (List.mem_of_getElem? (i := 24) rfl)
theorem w25 {a0 : Array Value} {Z : State} (hw : Hw a0 Z) : (Jvm.Cond.code ({ cls := "java/lang/StringUTF16", name := "compress", desc := "([CII)[B" } : Jvm.MethodName) jdk_52_method_16_code (6 : Nat) (Option.some (Jvm.ClassFile.FieldType.array Jvm.ClassFile.FieldType.byte))).before a0 Z = true := hw _ (List.mem_of_getElem? (i := 25) rfl)
theorem w26 {a0 : Array Value} {Z : State} (hw : Hw a0 Z) : (Jvm.Cond.arrayClass Jvm.ClassFile.FieldType.byte).before a0 Z = true := hw _ (List.mem_of_getElem? (i := 26) rfl)
theorem w27 {a0 : Array Value} {Z : State} (hw : Hw a0 Z) : (Jvm.Cond.methodLink "java/lang/StringUTF16" (115 : Nat) ({ cls := "java/lang/StringUTF16", name := "compress", desc := "([CI[BII)I" } : Jvm.MethodName)).before a0 Z = true := hw _ (List.mem_of_getElem? (i := 27) rfl)
theorem w28 {a0 : Array Value} {Z : State} (hw : Hw a0 Z) : (Jvm.Cond.static ({ cls := "java/lang/StringUTF16", name := "compress", desc := "([CI[BII)I" } : Jvm.MethodName)).before a0 Z = true := hw _ (List.mem_of_getElem? (i := 28) rfl)
theorem w29 {a0 : Array Value} {Z : State} (hw : Hw a0 Z) : (Jvm.Cond.code ({ cls := "java/lang/StringUTF16", name := "compress", desc := "([CI[BII)I" } : Jvm.MethodName) jdk_52_method_21_code (7 : Nat) (Option.some Jvm.ClassFile.FieldType.int)).before a0 Z = true := hw _ (List.mem_of_getElem? (i := 29) rfl)
theorem w30 {a0 : Array Value} {Z : State} (hw : Hw a0 Z) : (Jvm.Cond.methodLink "java/lang/String" (47 : Nat) ({ cls := "java/lang/StringUTF16", name := "coderFromArrayLen", desc := "([BI)B" } : Jvm.MethodName)).before a0 Z = true := hw _ (List.mem_of_getElem? (i := 30) rfl)
theorem w31 {a0 : Array Value} {Z : State} (hw : Hw a0 Z) : (Jvm.Cond.static ({ cls := "java/lang/StringUTF16", name := "coderFromArrayLen", desc := "([BI)B" } : Jvm.MethodName)).before a0 Z = true := hw _ (List.mem_of_getElem? (i := 31) rfl)
theorem w32 {a0 : Array Value} {Z : State} (hw : Hw a0 Z) : (Jvm.Cond.code ({ cls := "java/lang/StringUTF16", name := "coderFromArrayLen", desc := "([BI)B" } : Jvm.MethodName) jdk_52_method_15_code (2 : Nat) (Option.some Jvm.ClassFile.FieldType.byte)).before a0 Z = true := hw _ (List.mem_of_getElem? (i := 32) rfl)
theorem w33 {a0 : Array Value} {Z : State} (hw : Hw a0 Z) : (Jvm.Cond.fieldLink "java/lang/String" (15 : Nat) "java/lang/String" "coder" "B").before a0 Z = true := hw _ (List.mem_of_getElem? (i := 33) rfl)
theorem w34 {a0 : Array Value} {Z : State} (hw : Hw a0 Z) : (Jvm.Cond.laysFinal "java/lang/String" "java/lang/String" "coder" "B").before a0 Z = true := hw _ (List.mem_of_getElem? (i := 34) rfl)
theorem w35 {a0 : Array Value} {Z : State} (hw : Hw a0 Z) : (Jvm.Cond.fieldLink "java/lang/String" (9 : Nat) "java/lang/String" "value" "[B").before a0 Z = true := hw _ (List.mem_of_getElem? (i := 35) rfl)
theorem w36 {a0 : Array Value} {Z : State} (hw : Hw a0 Z) : (Jvm.Cond.laysFinal "java/lang/String" "java/lang/String" "value" "[B").before a0 Z = true := hw _ (List.mem_of_getElem? (i := 36) rfl)
theorem w37 {a0 : Array Value} {Z : State} (hw : Hw a0 Z) : (Jvm.Cond.classLink "com/example/ply3/ply3/NavigatorInternalRedirectPinLaw" (13 : Nat) "com/example/ply3/ply3/Navigator").before a0 Z = true := hw _ (List.mem_of_getElem? (i := 37) rfl)
theorem w38 {a0 : Array Value} {Z : State} (hw : Hw a0 Z) : (Jvm.Cond.instantiable "com/example/ply3/ply3/Navigator" (2 : Nat)).before a0 Z = true := hw _ (List.mem_of_getElem? (i := 38) rfl)
theorem w39 {a0 : Array Value} {Z : State} (hw : Hw a0 Z) : (Jvm.Cond.initialized "com/example/ply3/ply3/Navigator").before a0 Z = true := hw _ (List.mem_of_getElem? (i := 39) rfl)
theorem w40 {a0 : Array Value} {Z : State} (hw : Hw a0 Z) : (Jvm.Cond.methodLink "com/example/ply3/ply3/NavigatorInternalRedirectPinLaw" (15 : Nat) ({ cls := "com/example/ply3/ply3/Navigator", name := "<init>", desc := "()V" } : Jvm.MethodName)).before a0 Z = true := hw _ (List.mem_of_getElem? (i := 40) rfl)
theorem w41 {a0 : Array Value} {Z : State} (hw : Hw a0 Z) : (Jvm.Cond.instanceMethod ({ cls := "com/example/ply3/ply3/Navigator", name := "<init>", desc := "()V" } : Jvm.MethodName)).before a0 Z = true := hw _ (List.mem_of_getElem? (i := 41) rfl)
theorem w42 {a0 : Array Value} {Z : State} (hw : Hw a0 Z) : (Jvm.Cond.code ({ cls := "com/example/ply3/ply3/Navigator", name := "<init>", desc := "()V" } : Jvm.MethodName) prog_14_method_1_code (1 : Nat) (Option.none : Option Jvm.ClassFile.FieldType)).before a0 Z = true := hw _ (List.mem_of_getElem? (i := 42) rfl)
theorem w43 {a0 : Array Value} {Z : State} (hw : Hw a0 Z) : (Jvm.Cond.methodLink "com/example/ply3/ply3/Navigator" (1 : Nat) ({ cls := "java/lang/Object", name := "<init>", desc := "()V" } : Jvm.MethodName)).before a0 Z = true := hw _ (List.mem_of_getElem? (i := 43) rfl)
theorem w44 {a0 : Array Value} {Z : State} (hw : Hw a0 Z) : (Jvm.Cond.methodLink "com/example/ply3/ply3/NavigatorInternalRedirectPinLaw" (20 : Nat) ({ cls := "com/example/ply3/ply3/Navigator", name := "internalRedirect", desc := "()Ljava/util/Optional;" } : Jvm.MethodName)).before a0 Z = true := hw _ (List.mem_of_getElem? (i := 44) rfl)
theorem w45 {a0 : Array Value} {Z : State} (hw : Hw a0 Z) : (Jvm.Cond.declares ({ cls := "com/example/ply3/ply3/Navigator", name := "internalRedirect", desc := "()Ljava/util/Optional;" } : Jvm.MethodName)).before a0 Z = true := hw _ (List.mem_of_getElem? (i := 45) rfl)
theorem w46 {a0 : Array Value} {Z : State} (hw : Hw a0 Z) : (Jvm.Cond.instanceMethod ({ cls := "com/example/ply3/ply3/Navigator", name := "internalRedirect", desc := "()Ljava/util/Optional;" } : Jvm.MethodName)).before a0 Z = true := hw _ (List.mem_of_getElem? (i := 46) rfl)
theorem w47 {a0 : Array Value} {Z : State} (hw : Hw a0 Z) : (Jvm.Cond.selects "com/example/ply3/ply3/Navigator" ({ cls := "com/example/ply3/ply3/Navigator", name := "internalRedirect", desc := "()Ljava/util/Optional;" } : Jvm.MethodName) ({ cls := "com/example/ply3/ply3/Navigator", name := "internalRedirect", desc := "()Ljava/util/Optional;" } : Jvm.MethodName)).before a0 Z = true := hw _ (List.mem_of_getElem? (i := 47) rfl)
theorem w48 {a0 : Array Value} {Z : State} (hw : Hw a0 Z) : (Jvm.Cond.code ({ cls := "com/example/ply3/ply3/Navigator", name := "internalRedirect", desc := "()Ljava/util/Optional;" } : Jvm.MethodName) prog_14_method_6_code (1 : Nat) (Option.some (Jvm.ClassFile.FieldType.object "java/util/Optional"))).before a0 Z = true := hw _ (List.mem_of_getElem? (i := 48) rfl)
theorem w49 {a0 : Array Value} {Z : State} (hw : Hw a0 Z) : (Jvm.Cond.fieldLink "com/example/ply3/ply3/Navigator" (17 : Nat) "com/example/ply3/ply3/Navigator" "internal" "Z").before a0 Z = true := hw _ (List.mem_of_getElem? (i := 49) rfl)
theorem w50 {a0 : Array Value} {Z : State} (hw : Hw a0 Z) : (Jvm.Cond.lays "com/example/ply3/ply3/Navigator" "com/example/ply3/ply3/Navigator" "internal" "Z").before a0 Z = true := hw _ (List.mem_of_getElem? (i := 50) rfl)
theorem w51 {a0 : Array Value} {Z : State} (hw : Hw a0 Z) : (Jvm.Cond.methodLink "com/example/ply3/ply3/Navigator" (36 : Nat) ({ cls := "java/util/Optional", name := "empty", desc := "()Ljava/util/Optional;" } : Jvm.MethodName)).before a0 Z = true := hw _ (List.mem_of_getElem? (i := 51) rfl)
theorem w52 {a0 : Array Value} {Z : State} (hw : Hw a0 Z) : (Jvm.Cond.static ({ cls := "java/util/Optional", name := "empty", desc := "()Ljava/util/Optional;" } : Jvm.MethodName)).before a0 Z = true := hw _ (List.mem_of_getElem? (i := 52) rfl)
theorem w53 {a0 : Array Value} {Z : State} (hw : Hw a0 Z) : (Jvm.Cond.initialized "java/util/Optional").before a0 Z = true := hw _ (List.mem_of_getElem? (i := 53) rfl)
theorem w54 {a0 : Array Value} {Z : State} (hw : Hw a0 Z) : (Jvm.Cond.code ({ cls := "java/util/Optional", name := "empty", desc := "()Ljava/util/Optional;" } : Jvm.MethodName) jdk_32_method_1_code (1 : Nat) (Option.some (Jvm.ClassFile.FieldType.object "java/util/Optional"))).before a0 Z = true := hw _ (List.mem_of_getElem? (i := 54) rfl)
theorem w55 {a0 : Array Value} {Z : State} (hw : Hw a0 Z) : (Jvm.Cond.fieldLink "java/util/Optional" (1 : Nat) "java/util/Optional" "EMPTY" "Ljava/util/Optional;").before a0 Z = true := hw _ (List.mem_of_getElem? (i := 55) rfl)
theorem w56 {a0 : Array Value} {Z : State} (hw : Hw a0 Z) : (Jvm.Cond.methodLink "com/example/ply3/ply3/NavigatorInternalRedirectPinLaw" (24 : Nat) ({ cls := "java/util/Optional", name := "orElse", desc := "(Ljava/lang/Object;)Ljava/lang/Object;" } : Jvm.MethodName)).before a0 Z = true := hw _ (List.mem_of_getElem? (i := 56) rfl)
theorem w57 {a0 : Array Value} {Z : State} (hw : Hw a0 Z) : (Jvm.Cond.declares ({ cls := "java/util/Optional", name := "orElse", desc := "(Ljava/lang/Object;)Ljava/lang/Object;" } : Jvm.MethodName)).before a0 Z = true := hw _ (List.mem_of_getElem? (i := 57) rfl)
theorem w58 {a0 : Array Value} {Z : State} (hw : Hw a0 Z) : (Jvm.Cond.instanceMethod ({ cls := "java/util/Optional", name := "orElse", desc := "(Ljava/lang/Object;)Ljava/lang/Object;" } : Jvm.MethodName)).before a0 Z = true := hw _ (List.mem_of_getElem? (i := 58) rfl)
theorem w59 {a0 : Array Value} {Z : State} (hw : Hw a0 Z) : (Jvm.Cond.selects "java/util/Optional" ({ cls := "java/util/Optional", name := "orElse", desc := "(Ljava/lang/Object;)Ljava/lang/Object;" } : Jvm.MethodName) ({ cls := "java/util/Optional", name := "orElse", desc := "(Ljava/lang/Object;)Ljava/lang/Object;" } : Jvm.MethodName)).before a0 Z = true := hw _ (List.mem_of_getElem? (i := 59) rfl)
theorem w60 {a0 : Array Value} {Z : State} (hw : Hw a0 Z) : (Jvm.Cond.code ({ cls := "java/util/Optional", name := "orElse", desc := "(Ljava/lang/Object;)Ljava/lang/Object;" } : Jvm.MethodName) jdk_32_method_15_code (2 : Nat) (Option.some (Jvm.ClassFile.FieldType.object "java/lang/Object"))).before a0 Z = true := hw _ (List.mem_of_getElem? (i := 60) rfl)
theorem w61 {a0 : Array Value} {Z : State} (hw : Hw a0 Z) : (Jvm.Cond.fieldLink "java/util/Optional" (13 : Nat) "java/util/Optional" "value" "Ljava/lang/Object;").before a0 Z = true := hw _ (List.mem_of_getElem? (i := 61) rfl)
theorem w62 {a0 : Array Value} {Z : State} (hw : Hw a0 Z) : (Jvm.Cond.laysFinal "java/util/Optional" "java/util/Optional" "value" "Ljava/lang/Object;").before a0 Z = true := hw _ (List.mem_of_getElem? (i := 62) rfl)
theorem w63 {a0 : Array Value} {Z : State} (hw : Hw a0 Z) : (Jvm.Cond.methodLink "com/example/ply3/ply3/NavigatorInternalRedirectPinLaw" (16 : Nat) ({ cls := "com/example/ply3/ply3/NavigatorInternalRedirectPinLaw", name := "call", desc := "(Lcom/example/ply3/ply3/Navigator;ZLjava/lang/String;)V" } : Jvm.MethodName)).before a0 Z = true := hw _ (List.mem_of_getElem? (i := 63) rfl)
theorem w64 {a0 : Array Value} {Z : State} (hw : Hw a0 Z) : (Jvm.Cond.static ({ cls := "com/example/ply3/ply3/NavigatorInternalRedirectPinLaw", name := "call", desc := "(Lcom/example/ply3/ply3/Navigator;ZLjava/lang/String;)V" } : Jvm.MethodName)).before a0 Z = true := hw _ (List.mem_of_getElem? (i := 64) rfl)
theorem w65 {a0 : Array Value} {Z : State} (hw : Hw a0 Z) : (Jvm.Cond.code ({ cls := "com/example/ply3/ply3/NavigatorInternalRedirectPinLaw", name := "call", desc := "(Lcom/example/ply3/ply3/Navigator;ZLjava/lang/String;)V" } : Jvm.MethodName) method_3_code (3 : Nat) (Option.none : Option Jvm.ClassFile.FieldType)).before a0 Z = true := hw _ (List.mem_of_getElem? (i := 65) rfl)
theorem w66 {a0 : Array Value} {Z : State} (hw : Hw a0 Z) : (Jvm.Cond.methodLink "com/example/ply3/ply3/NavigatorInternalRedirectPinLaw" (41 : Nat) ({ cls := "com/example/ply3/ply3/Navigator", name := "internalRedirectTo", desc := "(Ljava/lang/String;)V" } : Jvm.MethodName)).before a0 Z = true := hw _ (List.mem_of_getElem? (i := 66) rfl)
theorem w67 {a0 : Array Value} {Z : State} (hw : Hw a0 Z) : (Jvm.Cond.declares ({ cls := "com/example/ply3/ply3/Navigator", name := "internalRedirectTo", desc := "(Ljava/lang/String;)V" } : Jvm.MethodName)).before a0 Z = true := hw _ (List.mem_of_getElem? (i := 67) rfl)
theorem w68 {a0 : Array Value} {Z : State} (hw : Hw a0 Z) : (Jvm.Cond.instanceMethod ({ cls := "com/example/ply3/ply3/Navigator", name := "internalRedirectTo", desc := "(Ljava/lang/String;)V" } : Jvm.MethodName)).before a0 Z = true := hw _ (List.mem_of_getElem? (i := 68) rfl)
theorem w69 {a0 : Array Value} {Z : State} (hw : Hw a0 Z) : (Jvm.Cond.selects "com/example/ply3/ply3/Navigator" ({ cls := "com/example/ply3/ply3/Navigator", name := "internalRedirectTo", desc := "(Ljava/lang/String;)V" } : Jvm.MethodName) ({ cls := "com/example/ply3/ply3/Navigator", name := "internalRedirectTo", desc := "(Ljava/lang/String;)V" } : Jvm.MethodName)).before a0 Z = true := hw _ (List.mem_of_getElem? (i := 69) rfl)
theorem w70 {a0 : Array Value} {Z : State} (hw : Hw a0 Z) : (Jvm.Cond.code ({ cls := "com/example/ply3/ply3/Navigator", name := "internalRedirectTo", desc := "(Ljava/lang/String;)V" } : Jvm.MethodName) prog_14_method_3_code (2 : Nat) (Option.none : Option Jvm.ClassFile.FieldType)).before a0 Z = true := hw _ (List.mem_of_getElem? (i := 70) rfl)
theorem w71 {a0 : Array Value} {Z : State} (hw : Hw a0 Z) : (Jvm.Cond.methodLink "com/example/ply3/ply3/Navigator" (7 : Nat) ({ cls := "com/example/ply3/ply3/Navigator", name := "parse", desc := "(Ljava/lang/String;)Lcom/example/ply3/ply3/Target;" } : Jvm.MethodName)).before a0 Z = true := hw _ (List.mem_of_getElem? (i := 71) rfl)
theorem w72 {a0 : Array Value} {Z : State} (hw : Hw a0 Z) : (Jvm.Cond.static ({ cls := "com/example/ply3/ply3/Navigator", name := "parse", desc := "(Ljava/lang/String;)Lcom/example/ply3/ply3/Target;" } : Jvm.MethodName)).before a0 Z = true := hw _ (List.mem_of_getElem? (i := 72) rfl)
theorem w73 {a0 : Array Value} {Z : State} (hw : Hw a0 Z) : (Jvm.Cond.code ({ cls := "com/example/ply3/ply3/Navigator", name := "parse", desc := "(Ljava/lang/String;)Lcom/example/ply3/ply3/Target;" } : Jvm.MethodName) prog_14_method_4_code (1 : Nat) (Option.some (Jvm.ClassFile.FieldType.object "com/example/ply3/ply3/Target"))).before a0 Z = true := hw _ (List.mem_of_getElem? (i := 73) rfl)
theorem w74 {a0 : Array Value} {Z : State} (hw : Hw a0 Z) : (Jvm.Cond.methodLink "com/example/ply3/ply3/Navigator" (21 : Nat) ({ cls := "com/example/ply3/ply3/Target", name := "parse", desc := "(Ljava/lang/String;)Ljava/util/Optional;" } : Jvm.MethodName)).before a0 Z = true := hw _ (List.mem_of_getElem? (i := 74) rfl)
theorem w75 {a0 : Array Value} {Z : State} (hw : Hw a0 Z) : (Jvm.Cond.static ({ cls := "com/example/ply3/ply3/Target", name := "parse", desc := "(Ljava/lang/String;)Ljava/util/Optional;" } : Jvm.MethodName)).before a0 Z = true := hw _ (List.mem_of_getElem? (i := 75) rfl)
theorem w76 {a0 : Array Value} {Z : State} (hw : Hw a0 Z) : (Jvm.Cond.initialized "com/example/ply3/ply3/Target").before a0 Z = true := hw _ (List.mem_of_getElem? (i := 76) rfl)
theorem w77 {a0 : Array Value} {Z : State} (hw : Hw a0 Z) : (Jvm.Cond.code ({ cls := "com/example/ply3/ply3/Target", name := "parse", desc := "(Ljava/lang/String;)Ljava/util/Optional;" } : Jvm.MethodName) prog_31_method_2_code (3 : Nat) (Option.some (Jvm.ClassFile.FieldType.object "java/util/Optional"))).before a0 Z = true := hw _ (List.mem_of_getElem? (i := 77) rfl)
theorem w78 {a0 : Array Value} {Z : State} (hw : Hw a0 Z) : (Jvm.Cond.stringLink "com/example/ply3/ply3/Target" (17 : Nat) "/").before a0 Z = true := hw _ (List.mem_of_getElem? (i := 78) rfl)
theorem w79 {a0 : Array Value} {Z : State} (hw : Hw a0 Z) : (Jvm.Cond.soleField "java/lang/String" "value").before a0 Z = true := hw _ (List.mem_of_getElem? (i := 79) rfl)
theorem w80 {a0 : Array Value} {Z : State} (hw : Hw a0 Z) : (Jvm.Cond.soleField "java/lang/String" "coder").before a0 Z = true := hw _ (List.mem_of_getElem? (i := 80) rfl)
theorem w81 {a0 : Array Value} {Z : State} (hw : Hw a0 Z) : (Jvm.Cond.methodLink "com/example/ply3/ply3/Target" (19 : Nat) ({ cls := "java/lang/String", name := "equals", desc := "(Ljava/lang/Object;)Z" } : Jvm.MethodName)).before a0 Z = true := hw _ (List.mem_of_getElem? (i := 81) rfl)
theorem w82 {a0 : Array Value} {Z : State} (hw : Hw a0 Z) : (Jvm.Cond.declares ({ cls := "java/lang/String", name := "equals", desc := "(Ljava/lang/Object;)Z" } : Jvm.MethodName)).before a0 Z = true := hw _ (List.mem_of_getElem? (i := 82) rfl)
theorem w83 {a0 : Array Value} {Z : State} (hw : Hw a0 Z) : (Jvm.Cond.instanceMethod ({ cls := "java/lang/String", name := "equals", desc := "(Ljava/lang/Object;)Z" } : Jvm.MethodName)).before a0 Z = true := hw _ (List.mem_of_getElem? (i := 83) rfl)
theorem w84 {a0 : Array Value} {Z : State} (hw : Hw a0 Z) : (Jvm.Cond.selects "java/lang/String" ({ cls := "java/lang/String", name := "equals", desc := "(Ljava/lang/Object;)Z" } : Jvm.MethodName) ({ cls := "java/lang/String", name := "equals", desc := "(Ljava/lang/Object;)Z" } : Jvm.MethodName)).before a0 Z = true := hw _ (List.mem_of_getElem? (i := 84) rfl)
theorem w85 {a0 : Array Value} {Z : State} (hw : Hw a0 Z) : (Jvm.Cond.code ({ cls := "java/lang/String", name := "equals", desc := "(Ljava/lang/Object;)Z" } : Jvm.MethodName) jdk_42_method_66_code (3 : Nat) (Option.some Jvm.ClassFile.FieldType.boolean)).before a0 Z = true := hw _ (List.mem_of_getElem? (i := 85) rfl)
theorem w86 {a0 : Array Value} {Z : State} (hw : Hw a0 Z) : (Jvm.Cond.classLink "java/lang/String" (10 : Nat) "java/lang/String").before a0 Z = true := hw _ (List.mem_of_getElem? (i := 86) rfl)
theorem w87 {a0 : Array Value} {Z : State} (hw : Hw a0 Z) : (Jvm.Cond.methodLink "java/lang/String" (541 : Nat) ({ cls := "java/lang/StringLatin1", name := "equals", desc := "([B[B)Z" } : Jvm.MethodName)).before a0 Z = true := hw _ (List.mem_of_getElem? (i := 87) rfl)
theorem w88 {a0 : Array Value} {Z : State} (hw : Hw a0 Z) : (Jvm.Cond.static ({ cls := "java/lang/StringLatin1", name := "equals", desc := "([B[B)Z" } : Jvm.MethodName)).before a0 Z = true := hw _ (List.mem_of_getElem? (i := 88) rfl)
theorem w89 {a0 : Array Value} {Z : State} (hw : Hw a0 Z) : (Jvm.Cond.initialized "java/lang/StringLatin1").before a0 Z = true := hw _ (List.mem_of_getElem? (i := 89) rfl)
theorem w90 {a0 : Array Value} {Z : State} (hw : Hw a0 Z) : (Jvm.Cond.code ({ cls := "java/lang/StringLatin1", name := "equals", desc := "([B[B)Z" } : Jvm.MethodName) jdk_43_method_13_code (3 : Nat) (Option.some Jvm.ClassFile.FieldType.boolean)).before a0 Z = true := hw _ (List.mem_of_getElem? (i := 90) rfl)
theorem w91 {a0 : Array Value} {Z : State} (hw : Hw a0 Z) : (Jvm.Cond.methodLink "com/example/ply3/ply3/Target" (41 : Nat) ({ cls := "com/example/ply3/ply3/Target", name := "name", desc := "(Ljava/lang/String;)Ljava/lang/String;" } : Jvm.MethodName)).before a0 Z = true := hw _ (List.mem_of_getElem? (i := 91) rfl)
theorem w92 {a0 : Array Value} {Z : State} (hw : Hw a0 Z) : (Jvm.Cond.static ({ cls := "com/example/ply3/ply3/Target", name := "name", desc := "(Ljava/lang/String;)Ljava/lang/String;" } : Jvm.MethodName)).before a0 Z = true := hw _ (List.mem_of_getElem? (i := 92) rfl)
theorem w93 {a0 : Array Value} {Z : State} (hw : Hw a0 Z) : (Jvm.Cond.code ({ cls := "com/example/ply3/ply3/Target", name := "name", desc := "(Ljava/lang/String;)Ljava/lang/String;" } : Jvm.MethodName) prog_31_method_4_code (3 : Nat) (Option.some (Jvm.ClassFile.FieldType.object "java/lang/String"))).before a0 Z = true := hw _ (List.mem_of_getElem? (i := 93) rfl)
theorem w94 {a0 : Array Value} {Z : State} (hw : Hw a0 Z) : (Jvm.Cond.methodLink "com/example/ply3/ply3/Target" (91 : Nat) ({ cls := "java/lang/String", name := "startsWith", desc := "(Ljava/lang/String;)Z" } : Jvm.MethodName)).before a0 Z = true := hw _ (List.mem_of_getElem? (i := 94) rfl)
theorem w95 {a0 : Array Value} {Z : State} (hw : Hw a0 Z) : (Jvm.Cond.declares ({ cls := "java/lang/String", name := "startsWith", desc := "(Ljava/lang/String;)Z" } : Jvm.MethodName)).before a0 Z = true := hw _ (List.mem_of_getElem? (i := 95) rfl)
theorem w96 {a0 : Array Value} {Z : State} (hw : Hw a0 Z) : (Jvm.Cond.instanceMethod ({ cls := "java/lang/String", name := "startsWith", desc := "(Ljava/lang/String;)Z" } : Jvm.MethodName)).before a0 Z = true := hw _ (List.mem_of_getElem? (i := 96) rfl)
theorem w97 {a0 : Array Value} {Z : State} (hw : Hw a0 Z) : (Jvm.Cond.selects "java/lang/String" ({ cls := "java/lang/String", name := "startsWith", desc := "(Ljava/lang/String;)Z" } : Jvm.MethodName) ({ cls := "java/lang/String", name := "startsWith", desc := "(Ljava/lang/String;)Z" } : Jvm.MethodName)).before a0 Z = true := hw _ (List.mem_of_getElem? (i := 97) rfl)
theorem w98 {a0 : Array Value} {Z : State} (hw : Hw a0 Z) : (Jvm.Cond.code ({ cls := "java/lang/String", name := "startsWith", desc := "(Ljava/lang/String;)Z" } : Jvm.MethodName) jdk_42_method_76_code (2 : Nat) (Option.some Jvm.ClassFile.FieldType.boolean)).before a0 Z = true := hw _ (List.mem_of_getElem? (i := 98) rfl)
theorem w99 {a0 : Array Value} {Z : State} (hw : Hw a0 Z) : (Jvm.Cond.methodLink "java/lang/String" (624 : Nat) ({ cls := "java/lang/String", name := "startsWith", desc := "(Ljava/lang/String;I)Z" } : Jvm.MethodName)).before a0 Z = true := hw _ (List.mem_of_getElem? (i := 99) rfl)
theorem w100 {a0 : Array Value} {Z : State} (hw : Hw a0 Z) : (Jvm.Cond.declares ({ cls := "java/lang/String", name := "startsWith", desc := "(Ljava/lang/String;I)Z" } : Jvm.MethodName)).before a0 Z = true := hw _ (List.mem_of_getElem? (i := 100) rfl)
theorem w101 {a0 : Array Value} {Z : State} (hw : Hw a0 Z) : (Jvm.Cond.instanceMethod ({ cls := "java/lang/String", name := "startsWith", desc := "(Ljava/lang/String;I)Z" } : Jvm.MethodName)).before a0 Z = true := hw _ (List.mem_of_getElem? (i := 101) rfl)
theorem w102 {a0 : Array Value} {Z : State} (hw : Hw a0 Z) : (Jvm.Cond.selects "java/lang/String" ({ cls := "java/lang/String", name := "startsWith", desc := "(Ljava/lang/String;I)Z" } : Jvm.MethodName) ({ cls := "java/lang/String", name := "startsWith", desc := "(Ljava/lang/String;I)Z" } : Jvm.MethodName)).before a0 Z = true := hw _ (List.mem_of_getElem? (i := 102) rfl)
theorem w103 {a0 : Array Value} {Z : State} (hw : Hw a0 Z) : (Jvm.Cond.code ({ cls := "java/lang/String", name := "startsWith", desc := "(Ljava/lang/String;I)Z" } : Jvm.MethodName) jdk_42_method_75_code (8 : Nat) (Option.some Jvm.ClassFile.FieldType.boolean)).before a0 Z = true := hw _ (List.mem_of_getElem? (i := 103) rfl)
theorem w104 {a0 : Array Value} {Z : State} (hw : Hw a0 Z) : (Jvm.Cond.methodLink "java/lang/String" (505 : Nat) ({ cls := "java/lang/String", name := "length", desc := "()I" } : Jvm.MethodName)).before a0 Z = true := hw _ (List.mem_of_getElem? (i := 104) rfl)
theorem w105 {a0 : Array Value} {Z : State} (hw : Hw a0 Z) : (Jvm.Cond.declares ({ cls := "java/lang/String", name := "length", desc := "()I" } : Jvm.MethodName)).before a0 Z = true := hw _ (List.mem_of_getElem? (i := 105) rfl)
theorem w106 {a0 : Array Value} {Z : State} (hw : Hw a0 Z) : (Jvm.Cond.instanceMethod ({ cls := "java/lang/String", name := "length", desc := "()I" } : Jvm.MethodName)).before a0 Z = true := hw _ (List.mem_of_getElem? (i := 106) rfl)
theorem w107 {a0 : Array Value} {Z : State} (hw : Hw a0 Z) : (Jvm.Cond.selects "java/lang/String" ({ cls := "java/lang/String", name := "length", desc := "()I" } : Jvm.MethodName) ({ cls := "java/lang/String", name := "length", desc := "()I" } : Jvm.MethodName)).before a0 Z = true := hw _ (List.mem_of_getElem? (i := 107) rfl)
theorem w108 {a0 : Array Value} {Z : State} (hw : Hw a0 Z) : (Jvm.Cond.code ({ cls := "java/lang/String", name := "length", desc := "()I" } : Jvm.MethodName) jdk_42_method_54_code (1 : Nat) (Option.some Jvm.ClassFile.FieldType.int)).before a0 Z = true := hw _ (List.mem_of_getElem? (i := 108) rfl)
theorem w109 {a0 : Array Value} {Z : State} (hw : Hw a0 Z) : (Jvm.Cond.methodLink "java/lang/String" (335 : Nat) ({ cls := "java/lang/String", name := "coder", desc := "()B" } : Jvm.MethodName)).before a0 Z = true := hw _ (List.mem_of_getElem? (i := 109) rfl)
theorem w110 {a0 : Array Value} {Z : State} (hw : Hw a0 Z) : (Jvm.Cond.declares ({ cls := "java/lang/String", name := "coder", desc := "()B" } : Jvm.MethodName)).before a0 Z = true := hw _ (List.mem_of_getElem? (i := 110) rfl)
theorem w111 {a0 : Array Value} {Z : State} (hw : Hw a0 Z) : (Jvm.Cond.instanceMethod ({ cls := "java/lang/String", name := "coder", desc := "()B" } : Jvm.MethodName)).before a0 Z = true := hw _ (List.mem_of_getElem? (i := 111) rfl)
theorem w112 {a0 : Array Value} {Z : State} (hw : Hw a0 Z) : (Jvm.Cond.selects "java/lang/String" ({ cls := "java/lang/String", name := "coder", desc := "()B" } : Jvm.MethodName) ({ cls := "java/lang/String", name := "coder", desc := "()B" } : Jvm.MethodName)).before a0 Z = true := hw _ (List.mem_of_getElem? (i := 112) rfl)
theorem w113 {a0 : Array Value} {Z : State} (hw : Hw a0 Z) : (Jvm.Cond.code ({ cls := "java/lang/String", name := "coder", desc := "()B" } : Jvm.MethodName) jdk_42_method_152_code (1 : Nat) (Option.some Jvm.ClassFile.FieldType.byte)).before a0 Z = true := hw _ (List.mem_of_getElem? (i := 113) rfl)
theorem w114 {a0 : Array Value} {Z : State} (hw : Hw a0 Z) : (Jvm.Cond.methodLink "java/lang/String" (607 : Nat) ({ cls := "jdk/internal/util/ArraysSupport", name := "mismatch", desc := "([BI[BII)I" } : Jvm.MethodName)).before a0 Z = true := hw _ (List.mem_of_getElem? (i := 114) rfl)
theorem w115 {a0 : Array Value} {Z : State} (hw : Hw a0 Z) : (Jvm.Cond.static ({ cls := "jdk/internal/util/ArraysSupport", name := "mismatch", desc := "([BI[BII)I" } : Jvm.MethodName)).before a0 Z = true := hw _ (List.mem_of_getElem? (i := 115) rfl)
theorem w116 {a0 : Array Value} {Z : State} (hw : Hw a0 Z) : (Jvm.Cond.initialized "jdk/internal/util/ArraysSupport").before a0 Z = true := hw _ (List.mem_of_getElem? (i := 116) rfl)
theorem w117 {a0 : Array Value} {Z : State} (hw : Hw a0 Z) : (Jvm.Cond.code ({ cls := "jdk/internal/util/ArraysSupport", name := "mismatch", desc := "([BI[BII)I" } : Jvm.MethodName) jdk_48_method_14_code (8 : Nat) (Option.some Jvm.ClassFile.FieldType.int)).before a0 Z = true := hw _ (List.mem_of_getElem? (i := 117) rfl)
theorem w118 {a0 : Array Value} {Z : State} (hw : Hw a0 Z) : (Jvm.Cond.methodLink "com/example/ply3/ply3/Target" (95 : Nat) ({ cls := "java/lang/String", name := "endsWith", desc := "(Ljava/lang/String;)Z" } : Jvm.MethodName)).before a0 Z = true := hw _ (List.mem_of_getElem? (i := 118) rfl)
theorem w119 {a0 : Array Value} {Z : State} (hw : Hw a0 Z) : (Jvm.Cond.declares ({ cls := "java/lang/String", name := "endsWith", desc := "(Ljava/lang/String;)Z" } : Jvm.MethodName)).before a0 Z = true := hw _ (List.mem_of_getElem? (i := 119) rfl)
theorem w120 {a0 : Array Value} {Z : State} (hw : Hw a0 Z) : (Jvm.Cond.instanceMethod ({ cls := "java/lang/String", name := "endsWith", desc := "(Ljava/lang/String;)Z" } : Jvm.MethodName)).before a0 Z = true := hw _ (List.mem_of_getElem? (i := 120) rfl)
theorem w121 {a0 : Array Value} {Z : State} (hw : Hw a0 Z) : (Jvm.Cond.selects "java/lang/String" ({ cls := "java/lang/String", name := "endsWith", desc := "(Ljava/lang/String;)Z" } : Jvm.MethodName) ({ cls := "java/lang/String", name := "endsWith", desc := "(Ljava/lang/String;)Z" } : Jvm.MethodName)).before a0 Z = true := hw _ (List.mem_of_getElem? (i := 121) rfl)
theorem w122 {a0 : Array Value} {Z : State} (hw : Hw a0 Z) : (Jvm.Cond.code ({ cls := "java/lang/String", name := "endsWith", desc := "(Ljava/lang/String;)Z" } : Jvm.MethodName) jdk_42_method_77_code (2 : Nat) (Option.some Jvm.ClassFile.FieldType.boolean)).before a0 Z = true := hw _ (List.mem_of_getElem? (i := 122) rfl)
theorem w123 {a0 : Array Value} {Z : State} (hw : Hw a0 Z) : (Jvm.Cond.methodLink "com/example/ply3/ply3/Target" (98 : Nat) ({ cls := "java/lang/String", name := "length", desc := "()I" } : Jvm.MethodName)).before a0 Z = true := hw _ (List.mem_of_getElem? (i := 123) rfl)
theorem w124 {a0 : Array Value} {Z : State} (hw : Hw a0 Z) : (Jvm.Cond.methodLink "com/example/ply3/ply3/Target" (102 : Nat) ({ cls := "java/lang/String", name := "substring", desc := "(II)Ljava/lang/String;" } : Jvm.MethodName)).before a0 Z = true := hw _ (List.mem_of_getElem? (i := 124) rfl)
theorem w125 {a0 : Array Value} {Z : State} (hw : Hw a0 Z) : (Jvm.Cond.declares ({ cls := "java/lang/String", name := "substring", desc := "(II)Ljava/lang/String;" } : Jvm.MethodName)).before a0 Z = true := hw _ (List.mem_of_getElem? (i := 125) rfl)
theorem w126 {a0 : Array Value} {Z : State} (hw : Hw a0 Z) : (Jvm.Cond.instanceMethod ({ cls := "java/lang/String", name := "substring", desc := "(II)Ljava/lang/String;" } : Jvm.MethodName)).before a0 Z = true := hw _ (List.mem_of_getElem? (i := 126) rfl)
theorem w127 {a0 : Array Value} {Z : State} (hw : Hw a0 Z) : (Jvm.Cond.selects "java/lang/String" ({ cls := "java/lang/String", name := "substring", desc := "(II)Ljava/lang/String;" } : Jvm.MethodName) ({ cls := "java/lang/String", name := "substring", desc := "(II)Ljava/lang/String;" } : Jvm.MethodName)).before a0 Z = true := hw _ (List.mem_of_getElem? (i := 127) rfl)
theorem w128 {a0 : Array Value} {Z : State} (hw : Hw a0 Z) : (Jvm.Cond.code ({ cls := "java/lang/String", name := "substring", desc := "(II)Ljava/lang/String;" } : Jvm.MethodName) jdk_42_method_92_code (5 : Nat) (Option.some (Jvm.ClassFile.FieldType.object "java/lang/String"))).before a0 Z = true := hw _ (List.mem_of_getElem? (i := 128) rfl)
theorem w129 {a0 : Array Value} {Z : State} (hw : Hw a0 Z) : (Jvm.Cond.methodLink "java/lang/String" (521 : Nat) ({ cls := "java/lang/String", name := "checkBoundsBeginEnd", desc := "(III)V" } : Jvm.MethodName)).before a0 Z = true := hw _ (List.mem_of_getElem? (i := 129) rfl)
theorem w130 {a0 : Array Value} {Z : State} (hw : Hw a0 Z) : (Jvm.Cond.static ({ cls := "java/lang/String", name := "checkBoundsBeginEnd", desc := "(III)V" } : Jvm.MethodName)).before a0 Z = true := hw _ (List.mem_of_getElem? (i := 130) rfl)
theorem w131 {a0 : Array Value} {Z : State} (hw : Hw a0 Z) : (Jvm.Cond.code ({ cls := "java/lang/String", name := "checkBoundsBeginEnd", desc := "(III)V" } : Jvm.MethodName) jdk_42_method_158_code (3 : Nat) (Option.none : Option Jvm.ClassFile.FieldType)).before a0 Z = true := hw _ (List.mem_of_getElem? (i := 131) rfl)
theorem w132 {a0 : Array Value} {Z : State} (hw : Hw a0 Z) : (Jvm.Cond.fieldLink "java/lang/String" (1053 : Nat) "jdk/internal/util/Preconditions" "SIOOBE_FORMATTER" "Ljava/util/function/BiFunction;").before a0 Z = true := hw _ (List.mem_of_getElem? (i := 132) rfl)
theorem w133 {a0 : Array Value} {Z : State} (hw : Hw a0 Z) : (Jvm.Cond.initialized "jdk/internal/util/Preconditions").before a0 Z = true := hw _ (List.mem_of_getElem? (i := 133) rfl)
theorem w134 {a0 : Array Value} {Z : State} (hw : Hw a0 Z) : (Jvm.Cond.methodLink "java/lang/String" (1062 : Nat) ({ cls := "jdk/internal/util/Preconditions", name := "checkFromToIndex", desc := "(IIILjava/util/function/BiFunction;)I" } : Jvm.MethodName)).before a0 Z = true := hw _ (List.mem_of_getElem? (i := 134) rfl)
theorem w135 {a0 : Array Value} {Z : State} (hw : Hw a0 Z) : (Jvm.Cond.static ({ cls := "jdk/internal/util/Preconditions", name := "checkFromToIndex", desc := "(IIILjava/util/function/BiFunction;)I" } : Jvm.MethodName)).before a0 Z = true := hw _ (List.mem_of_getElem? (i := 135) rfl)
theorem w136 {a0 : Array Value} {Z : State} (hw : Hw a0 Z) : (Jvm.Cond.code ({ cls := "jdk/internal/util/Preconditions", name := "checkFromToIndex", desc := "(IIILjava/util/function/BiFunction;)I" } : Jvm.MethodName) jdk_41_method_12_code (4 : Nat) (Option.some Jvm.ClassFile.FieldType.int)).before a0 Z = true := hw _ (List.mem_of_getElem? (i := 136) rfl)
theorem w137 {a0 : Array Value} {Z : State} (hw : Hw a0 Z) : (Jvm.Cond.methodLink "com/example/ply3/ply3/Target" (44 : Nat) ({ cls := "java/lang/String", name := "split", desc := "(Ljava/lang/String;I)[Ljava/lang/String;" } : Jvm.MethodName)).before a0 Z = true := hw _ (List.mem_of_getElem? (i := 137) rfl)
theorem w138 {a0 : Array Value} {Z : State} (hw : Hw a0 Z) : (Jvm.Cond.declares ({ cls := "java/lang/String", name := "split", desc := "(Ljava/lang/String;I)[Ljava/lang/String;" } : Jvm.MethodName)).before a0 Z = true := hw _ (List.mem_of_getElem? (i := 138) rfl)
theorem w139 {a0 : Array Value} {Z : State} (hw : Hw a0 Z) : (Jvm.Cond.instanceMethod ({ cls := "java/lang/String", name := "split", desc := "(Ljava/lang/String;I)[Ljava/lang/String;" } : Jvm.MethodName)).before a0 Z = true := hw _ (List.mem_of_getElem? (i := 139) rfl)
theorem w140 {a0 : Array Value} {Z : State} (hw : Hw a0 Z) : (Jvm.Cond.selects "java/lang/String" ({ cls := "java/lang/String", name := "split", desc := "(Ljava/lang/String;I)[Ljava/lang/String;" } : Jvm.MethodName) ({ cls := "java/lang/String", name := "split", desc := "(Ljava/lang/String;I)[Ljava/lang/String;" } : Jvm.MethodName)).before a0 Z = true := hw _ (List.mem_of_getElem? (i := 140) rfl)
theorem w141 {a0 : Array Value} {Z : State} (hw : Hw a0 Z) : (Jvm.Cond.code ({ cls := "java/lang/String", name := "split", desc := "(Ljava/lang/String;I)[Ljava/lang/String;" } : Jvm.MethodName) jdk_42_method_101_code (3 : Nat) (Option.some (Jvm.ClassFile.FieldType.array (Jvm.ClassFile.FieldType.object "java/lang/String")))).before a0 Z = true := hw _ (List.mem_of_getElem? (i := 141) rfl)
theorem w142 {a0 : Array Value} {Z : State} (hw : Hw a0 Z) : (Jvm.Cond.methodLink "java/lang/String" (757 : Nat) ({ cls := "java/lang/String", name := "split", desc := "(Ljava/lang/String;IZ)[Ljava/lang/String;" } : Jvm.MethodName)).before a0 Z = true := hw _ (List.mem_of_getElem? (i := 142) rfl)
theorem w143 {a0 : Array Value} {Z : State} (hw : Hw a0 Z) : (Jvm.Cond.instanceMethod ({ cls := "java/lang/String", name := "split", desc := "(Ljava/lang/String;IZ)[Ljava/lang/String;" } : Jvm.MethodName)).before a0 Z = true := hw _ (List.mem_of_getElem? (i := 143) rfl)
theorem w144 {a0 : Array Value} {Z : State} (hw : Hw a0 Z) : (Jvm.Cond.privateMethod ({ cls := "java/lang/String", name := "split", desc := "(Ljava/lang/String;IZ)[Ljava/lang/String;" } : Jvm.MethodName)).before a0 Z = true := hw _ (List.mem_of_getElem? (i := 144) rfl)
theorem w146 {a0 : Array Value} {Z : State} (hw : Hw a0 Z) : (Jvm.Cond.code ({ cls := "java/lang/String", name := "split", desc := "(Ljava/lang/String;IZ)[Ljava/lang/String;" } : Jvm.MethodName) jdk_42_method_103_code (6 : Nat) (Option.some (Jvm.ClassFile.FieldType.array (Jvm.ClassFile.FieldType.object "java/lang/String")))).before a0 Z = true := hw _ (List.mem_of_getElem? (i := 146) rfl)
theorem w147 {a0 : Array Value} {Z : State} (hw : Hw a0 Z) : (Jvm.Cond.stringLink "java/lang/String" (761 : Nat) ".$|()[{^?*+\\").before a0 Z = true := hw _ (List.mem_of_getElem? (i := 147) rfl)
theorem w148 {a0 : Array Value} {Z : State} (hw : Hw a0 Z) : (Jvm.Cond.methodLink "java/lang/String" (656 : Nat) ({ cls := "java/lang/String", name := "charAt", desc := "(I)C" } : Jvm.MethodName)).before a0 Z = true := hw _ (List.mem_of_getElem? (i := 148) rfl)
theorem w149 {a0 : Array Value} {Z : State} (hw : Hw a0 Z) : (Jvm.Cond.declares ({ cls := "java/lang/String", name := "charAt", desc := "(I)C" } : Jvm.MethodName)).before a0 Z = true := hw _ (List.mem_of_getElem? (i := 149) rfl)
theorem w150 {a0 : Array Value} {Z : State} (hw : Hw a0 Z) : (Jvm.Cond.instanceMethod ({ cls := "java/lang/String", name := "charAt", desc := "(I)C" } : Jvm.MethodName)).before a0 Z = true := hw _ (List.mem_of_getElem? (i := 150) rfl)
theorem w151 {a0 : Array Value} {Z : State} (hw : Hw a0 Z) : (Jvm.Cond.selects "java/lang/String" ({ cls := "java/lang/String", name := "charAt", desc := "(I)C" } : Jvm.MethodName) ({ cls := "java/lang/String", name := "charAt", desc := "(I)C" } : Jvm.MethodName)).before a0 Z = true := hw _ (List.mem_of_getElem? (i := 151) rfl)
theorem w152 {a0 : Array Value} {Z : State} (hw : Hw a0 Z) : (Jvm.Cond.code ({ cls := "java/lang/String", name := "charAt", desc := "(I)C" } : Jvm.MethodName) jdk_42_method_56_code (2 : Nat) (Option.some Jvm.ClassFile.FieldType.char)).before a0 Z = true := hw _ (List.mem_of_getElem? (i := 152) rfl)
theorem w153 {a0 : Array Value} {Z : State} (hw : Hw a0 Z) : (Jvm.Cond.methodLink "java/lang/String" (492 : Nat) ({ cls := "java/lang/String", name := "isLatin1", desc := "()Z" } : Jvm.MethodName)).before a0 Z = true := hw _ (List.mem_of_getElem? (i := 153) rfl)
theorem w154 {a0 : Array Value} {Z : State} (hw : Hw a0 Z) : (Jvm.Cond.declares ({ cls := "java/lang/String", name := "isLatin1", desc := "()Z" } : Jvm.MethodName)).before a0 Z = true := hw _ (List.mem_of_getElem? (i := 154) rfl)
theorem w155 {a0 : Array Value} {Z : State} (hw : Hw a0 Z) : (Jvm.Cond.instanceMethod ({ cls := "java/lang/String", name := "isLatin1", desc := "()Z" } : Jvm.MethodName)).before a0 Z = true := hw _ (List.mem_of_getElem? (i := 155) rfl)
theorem w156 {a0 : Array Value} {Z : State} (hw : Hw a0 Z) : (Jvm.Cond.selects "java/lang/String" ({ cls := "java/lang/String", name := "isLatin1", desc := "()Z" } : Jvm.MethodName) ({ cls := "java/lang/String", name := "isLatin1", desc := "()Z" } : Jvm.MethodName)).before a0 Z = true := hw _ (List.mem_of_getElem? (i := 156) rfl)
theorem w157 {a0 : Array Value} {Z : State} (hw : Hw a0 Z) : (Jvm.Cond.code ({ cls := "java/lang/String", name := "isLatin1", desc := "()Z" } : Jvm.MethodName) jdk_42_method_154_code (1 : Nat) (Option.some Jvm.ClassFile.FieldType.boolean)).before a0 Z = true := hw _ (List.mem_of_getElem? (i := 157) rfl)
theorem w158 {a0 : Array Value} {Z : State} (hw : Hw a0 Z) : (Jvm.Cond.methodLink "java/lang/String" (495 : Nat) ({ cls := "java/lang/StringLatin1", name := "charAt", desc := "([BI)C" } : Jvm.MethodName)).before a0 Z = true := hw _ (List.mem_of_getElem? (i := 158) rfl)
theorem w159 {a0 : Array Value} {Z : State} (hw : Hw a0 Z) : (Jvm.Cond.static ({ cls := "java/lang/StringLatin1", name := "charAt", desc := "([BI)C" } : Jvm.MethodName)).before a0 Z = true := hw _ (List.mem_of_getElem? (i := 159) rfl)
theorem w160 {a0 : Array Value} {Z : State} (hw : Hw a0 Z) : (Jvm.Cond.code ({ cls := "java/lang/StringLatin1", name := "charAt", desc := "([BI)C" } : Jvm.MethodName) jdk_43_method_2_code (2 : Nat) (Option.some Jvm.ClassFile.FieldType.char)).before a0 Z = true := hw _ (List.mem_of_getElem? (i := 160) rfl)
theorem w161 {a0 : Array Value} {Z : State} (hw : Hw a0 Z) : (Jvm.Cond.methodLink "java/lang/StringLatin1" (9 : Nat) ({ cls := "java/lang/String", name := "checkIndex", desc := "(II)V" } : Jvm.MethodName)).before a0 Z = true := hw _ (List.mem_of_getElem? (i := 161) rfl)
theorem w162 {a0 : Array Value} {Z : State} (hw : Hw a0 Z) : (Jvm.Cond.static ({ cls := "java/lang/String", name := "checkIndex", desc := "(II)V" } : Jvm.MethodName)).before a0 Z = true := hw _ (List.mem_of_getElem? (i := 162) rfl)
theorem w163 {a0 : Array Value} {Z : State} (hw : Hw a0 Z) : (Jvm.Cond.code ({ cls := "java/lang/String", name := "checkIndex", desc := "(II)V" } : Jvm.MethodName) jdk_42_method_155_code (2 : Nat) (Option.none : Option Jvm.ClassFile.FieldType)).before a0 Z = true := hw _ (List.mem_of_getElem? (i := 163) rfl)
theorem w164 {a0 : Array Value} {Z : State} (hw : Hw a0 Z) : (Jvm.Cond.methodLink "java/lang/String" (1059 : Nat) ({ cls := "jdk/internal/util/Preconditions", name := "checkIndex", desc := "(IILjava/util/function/BiFunction;)I" } : Jvm.MethodName)).before a0 Z = true := hw _ (List.mem_of_getElem? (i := 164) rfl)
theorem w165 {a0 : Array Value} {Z : State} (hw : Hw a0 Z) : (Jvm.Cond.static ({ cls := "jdk/internal/util/Preconditions", name := "checkIndex", desc := "(IILjava/util/function/BiFunction;)I" } : Jvm.MethodName)).before a0 Z = true := hw _ (List.mem_of_getElem? (i := 165) rfl)
theorem w166 {a0 : Array Value} {Z : State} (hw : Hw a0 Z) : (Jvm.Cond.code ({ cls := "jdk/internal/util/Preconditions", name := "checkIndex", desc := "(IILjava/util/function/BiFunction;)I" } : Jvm.MethodName) jdk_41_method_11_code (3 : Nat) (Option.some Jvm.ClassFile.FieldType.int)).before a0 Z = true := hw _ (List.mem_of_getElem? (i := 166) rfl)
theorem w167 {a0 : Array Value} {Z : State} (hw : Hw a0 Z) : (Jvm.Cond.methodLink "java/lang/String" (763 : Nat) ({ cls := "java/lang/String", name := "indexOf", desc := "(I)I" } : Jvm.MethodName)).before a0 Z = true := hw _ (List.mem_of_getElem? (i := 167) rfl)
theorem w168 {a0 : Array Value} {Z : State} (hw : Hw a0 Z) : (Jvm.Cond.declares ({ cls := "java/lang/String", name := "indexOf", desc := "(I)I" } : Jvm.MethodName)).before a0 Z = true := hw _ (List.mem_of_getElem? (i := 168) rfl)
theorem w169 {a0 : Array Value} {Z : State} (hw : Hw a0 Z) : (Jvm.Cond.instanceMethod ({ cls := "java/lang/String", name := "indexOf", desc := "(I)I" } : Jvm.MethodName)).before a0 Z = true := hw _ (List.mem_of_getElem? (i := 169) rfl)
theorem w170 {a0 : Array Value} {Z : State} (hw : Hw a0 Z) : (Jvm.Cond.selects "java/lang/String" ({ cls := "java/lang/String", name := "indexOf", desc := "(I)I" } : Jvm.MethodName) ({ cls := "java/lang/String", name := "indexOf", desc := "(I)I" } : Jvm.MethodName)).before a0 Z = true := hw _ (List.mem_of_getElem? (i := 170) rfl)
theorem w171 {a0 : Array Value} {Z : State} (hw : Hw a0 Z) : (Jvm.Cond.code ({ cls := "java/lang/String", name := "indexOf", desc := "(I)I" } : Jvm.MethodName) jdk_42_method_79_code (2 : Nat) (Option.some Jvm.ClassFile.FieldType.int)).before a0 Z = true := hw _ (List.mem_of_getElem? (i := 171) rfl)
theorem w172 {a0 : Array Value} {Z : State} (hw : Hw a0 Z) : (Jvm.Cond.methodLink "java/lang/String" (633 : Nat) ({ cls := "java/lang/String", name := "indexOf", desc := "(II)I" } : Jvm.MethodName)).before a0 Z = true := hw _ (List.mem_of_getElem? (i := 172) rfl)
theorem w173 {a0 : Array Value} {Z : State} (hw : Hw a0 Z) : (Jvm.Cond.declares ({ cls := "java/lang/String", name := "indexOf", desc := "(II)I" } : Jvm.MethodName)).before a0 Z = true := hw _ (List.mem_of_getElem? (i := 173) rfl)
theorem w174 {a0 : Array Value} {Z : State} (hw : Hw a0 Z) : (Jvm.Cond.instanceMethod ({ cls := "java/lang/String", name := "indexOf", desc := "(II)I" } : Jvm.MethodName)).before a0 Z = true := hw _ (List.mem_of_getElem? (i := 174) rfl)
theorem w175 {a0 : Array Value} {Z : State} (hw : Hw a0 Z) : (Jvm.Cond.selects "java/lang/String" ({ cls := "java/lang/String", name := "indexOf", desc := "(II)I" } : Jvm.MethodName) ({ cls := "java/lang/String", name := "indexOf", desc := "(II)I" } : Jvm.MethodName)).before a0 Z = true := hw _ (List.mem_of_getElem? (i := 175) rfl)
theorem w176 {a0 : Array Value} {Z : State} (hw : Hw a0 Z) : (Jvm.Cond.code ({ cls := "java/lang/String", name := "indexOf", desc := "(II)I" } : Jvm.MethodName) jdk_42_method_80_code (3 : Nat) (Option.some Jvm.ClassFile.FieldType.int)).before a0 Z = true := hw _ (List.mem_of_getElem? (i := 176) rfl)
theorem w177 {a0 : Array Value} {Z : State} (hw : Hw a0 Z) : (Jvm.Cond.methodLink "java/lang/String" (637 : Nat) ({ cls := "java/lang/StringLatin1", name := "indexOf", desc := "([BIII)I" } : Jvm.MethodName)).before a0 Z = true := hw _ (List.mem_of_getElem? (i := 177) rfl)
theorem w178 {a0 : Array Value} {Z : State} (hw : Hw a0 Z) : (Jvm.Cond.static ({ cls := "java/lang/StringLatin1", name := "indexOf", desc := "([BIII)I" } : Jvm.MethodName)).before a0 Z = true := hw _ (List.mem_of_getElem? (i := 178) rfl)
theorem w179 {a0 : Array Value} {Z : State} (hw : Hw a0 Z) : (Jvm.Cond.code ({ cls := "java/lang/StringLatin1", name := "indexOf", desc := "([BIII)I" } : Jvm.MethodName) jdk_43_method_22_code (4 : Nat) (Option.some Jvm.ClassFile.FieldType.int)).before a0 Z = true := hw _ (List.mem_of_getElem? (i := 179) rfl)
theorem w180 {a0 : Array Value} {Z : State} (hw : Hw a0 Z) : (Jvm.Cond.methodLink "java/lang/StringLatin1" (88 : Nat) ({ cls := "java/lang/StringLatin1", name := "canEncode", desc := "(I)Z" } : Jvm.MethodName)).before a0 Z = true := hw _ (List.mem_of_getElem? (i := 180) rfl)
theorem w181 {a0 : Array Value} {Z : State} (hw : Hw a0 Z) : (Jvm.Cond.static ({ cls := "java/lang/StringLatin1", name := "canEncode", desc := "(I)Z" } : Jvm.MethodName)).before a0 Z = true := hw _ (List.mem_of_getElem? (i := 181) rfl)
theorem w182 {a0 : Array Value} {Z : State} (hw : Hw a0 Z) : (Jvm.Cond.code ({ cls := "java/lang/StringLatin1", name := "canEncode", desc := "(I)Z" } : Jvm.MethodName) jdk_43_method_4_code (1 : Nat) (Option.some Jvm.ClassFile.FieldType.boolean)).before a0 Z = true := hw _ (List.mem_of_getElem? (i := 182) rfl)
theorem w183 {a0 : Array Value} {Z : State} (hw : Hw a0 Z) : (Jvm.Cond.methodLink "java/lang/StringLatin1" (92 : Nat) ({ cls := "java/lang/Math", name := "max", desc := "(II)I" } : Jvm.MethodName)).before a0 Z = true := hw _ (List.mem_of_getElem? (i := 183) rfl)
theorem w184 {a0 : Array Value} {Z : State} (hw : Hw a0 Z) : (Jvm.Cond.static ({ cls := "java/lang/Math", name := "max", desc := "(II)I" } : Jvm.MethodName)).before a0 Z = true := hw _ (List.mem_of_getElem? (i := 184) rfl)
theorem w185 {a0 : Array Value} {Z : State} (hw : Hw a0 Z) : (Jvm.Cond.initialized "java/lang/Math").before a0 Z = true := hw _ (List.mem_of_getElem? (i := 185) rfl)
theorem w186 {a0 : Array Value} {Z : State} (hw : Hw a0 Z) : (Jvm.Cond.code ({ cls := "java/lang/Math", name := "max", desc := "(II)I" } : Jvm.MethodName) jdk_29_method_65_code (2 : Nat) (Option.some Jvm.ClassFile.FieldType.int)).before a0 Z = true := hw _ (List.mem_of_getElem? (i := 186) rfl)
theorem w187 {a0 : Array Value} {Z : State} (hw : Hw a0 Z) : (Jvm.Cond.methodLink "java/lang/StringLatin1" (38 : Nat) ({ cls := "java/lang/Math", name := "min", desc := "(II)I" } : Jvm.MethodName)).before a0 Z = true := hw _ (List.mem_of_getElem? (i := 187) rfl)
theorem w188 {a0 : Array Value} {Z : State} (hw : Hw a0 Z) : (Jvm.Cond.static ({ cls := "java/lang/Math", name := "min", desc := "(II)I" } : Jvm.MethodName)).before a0 Z = true := hw _ (List.mem_of_getElem? (i := 188) rfl)
theorem w189 {a0 : Array Value} {Z : State} (hw : Hw a0 Z) : (Jvm.Cond.code ({ cls := "java/lang/Math", name := "min", desc := "(II)I" } : Jvm.MethodName) jdk_29_method_69_code (2 : Nat) (Option.some Jvm.ClassFile.FieldType.int)).before a0 Z = true := hw _ (List.mem_of_getElem? (i := 189) rfl)
theorem w190 {a0 : Array Value} {Z : State} (hw : Hw a0 Z) : (Jvm.Cond.methodLink "java/lang/StringLatin1" (95 : Nat) ({ cls := "java/lang/StringLatin1", name := "indexOfChar", desc := "([BIII)I" } : Jvm.MethodName)).before a0 Z = true := hw _ (List.mem_of_getElem? (i := 190) rfl)
theorem w191 {a0 : Array Value} {Z : State} (hw : Hw a0 Z) : (Jvm.Cond.static ({ cls := "java/lang/StringLatin1", name := "indexOfChar", desc := "([BIII)I" } : Jvm.MethodName)).before a0 Z = true := hw _ (List.mem_of_getElem? (i := 191) rfl)
theorem w192 {a0 : Array Value} {Z : State} (hw : Hw a0 Z) : (Jvm.Cond.code ({ cls := "java/lang/StringLatin1", name := "indexOfChar", desc := "([BIII)I" } : Jvm.MethodName) jdk_43_method_23_code (6 : Nat) (Option.some Jvm.ClassFile.FieldType.int)).before a0 Z = true := hw _ (List.mem_of_getElem? (i := 192) rfl)
theorem w193 {a0 : Array Value} {Z : State} (hw : Hw a0 Z) : (Jvm.Cond.constant "java/lang/String" (766 : Nat) (55296 : Int32)).before a0 Z = true := hw _ (List.mem_of_getElem? (i := 193) rfl)
theorem w194 {a0 : Array Value} {Z : State} (hw : Hw a0 Z) : (Jvm.Cond.methodLink "java/lang/String" (768 : Nat) ({ cls := "java/lang/String", name := "split", desc := "(CIZ)[Ljava/lang/String;" } : Jvm.MethodName)).before a0 Z = true := hw _ (List.mem_of_getElem? (i := 194) rfl)
theorem w195 {a0 : Array Value} {Z : State} (hw : Hw a0 Z) : (Jvm.Cond.instanceMethod ({ cls := "java/lang/String", name := "split", desc := "(CIZ)[Ljava/lang/String;" } : Jvm.MethodName)).before a0 Z = true := hw _ (List.mem_of_getElem? (i := 195) rfl)
theorem w196 {a0 : Array Value} {Z : State} (hw : Hw a0 Z) : (Jvm.Cond.privateMethod ({ cls := "java/lang/String", name := "split", desc := "(CIZ)[Ljava/lang/String;" } : Jvm.MethodName)).before a0 Z = true := hw _ (List.mem_of_getElem? (i := 196) rfl)
theorem w198 {a0 : Array Value} {Z : State} (hw : Hw a0 Z) : (Jvm.Cond.code ({ cls := "java/lang/String", name := "split", desc := "(CIZ)[Ljava/lang/String;" } : Jvm.MethodName) jdk_42_method_104_code (12 : Nat) (Option.some (Jvm.ClassFile.FieldType.array (Jvm.ClassFile.FieldType.object "java/lang/String")))).before a0 Z = true := hw _ (List.mem_of_getElem? (i := 198) rfl)
theorem w199 {a0 : Array Value} {Z : State} (hw : Hw a0 Z) : (Jvm.Cond.classLink "java/lang/String" (777 : Nat) "java/util/ArrayList").before a0 Z = true := hw _ (List.mem_of_getElem? (i := 199) rfl)
theorem w200 {a0 : Array Value} {Z : State} (hw : Hw a0 Z) : (Jvm.Cond.instantiable "java/util/ArrayList" (3 : Nat)).before a0 Z = true := hw _ (List.mem_of_getElem? (i := 200) rfl)
theorem w201 {a0 : Array Value} {Z : State} (hw : Hw a0 Z) : (Jvm.Cond.initialized "java/util/ArrayList").before a0 Z = true := hw _ (List.mem_of_getElem? (i := 201) rfl)
theorem w202 {a0 : Array Value} {Z : State} (hw : Hw a0 Z) : (Jvm.Cond.methodLink "java/lang/String" (779 : Nat) ({ cls := "java/util/ArrayList", name := "<init>", desc := "()V" } : Jvm.MethodName)).before a0 Z = true := hw _ (List.mem_of_getElem? (i := 202) rfl)
theorem w203 {a0 : Array Value} {Z : State} (hw : Hw a0 Z) : (Jvm.Cond.instanceMethod ({ cls := "java/util/ArrayList", name := "<init>", desc := "()V" } : Jvm.MethodName)).before a0 Z = true := hw _ (List.mem_of_getElem? (i := 203) rfl)
theorem w205 {a0 : Array Value} {Z : State} (hw : Hw a0 Z) : (Jvm.Cond.code ({ cls := "java/util/ArrayList", name := "<init>", desc := "()V" } : Jvm.MethodName) jdk_38_method_2_code (1 : Nat) (Option.none : Option Jvm.ClassFile.FieldType)).before a0 Z = true := hw _ (List.mem_of_getElem? (i := 205) rfl)
theorem w206 {a0 : Array Value} {Z : State} (hw : Hw a0 Z) : (Jvm.Cond.methodLink "java/util/ArrayList" (1 : Nat) ({ cls := "java/util/AbstractList", name := "<init>", desc := "()V" } : Jvm.MethodName)).before a0 Z = true := hw _ (List.mem_of_getElem? (i := 206) rfl)
theorem w207 {a0 : Array Value} {Z : State} (hw : Hw a0 Z) : (Jvm.Cond.instanceMethod ({ cls := "java/util/AbstractList", name := "<init>", desc := "()V" } : Jvm.MethodName)).before a0 Z = true := hw _ (List.mem_of_getElem? (i := 207) rfl)
theorem w210 {a0 : Array Value} {Z : State} (hw : Hw a0 Z) : (Jvm.Cond.initialized "java/util/AbstractList").before a0 Z = true := hw _ (List.mem_of_getElem? (i := 210) rfl)
theorem w211 {a0 : Array Value} {Z : State} (hw : Hw a0 Z) : (Jvm.Cond.code ({ cls := "java/util/AbstractList", name := "<init>", desc := "()V" } : Jvm.MethodName) jdk_39_method_1_code (1 : Nat) (Option.none : Option Jvm.ClassFile.FieldType)).before a0 Z = true := hw _ (List.mem_of_getElem? (i := 211) rfl)
theorem w212 {a0 : Array Value} {Z : State} (hw : Hw a0 Z) : (Jvm.Cond.methodLink "java/util/AbstractList" (1 : Nat) ({ cls := "java/util/AbstractCollection", name := "<init>", desc := "()V" } : Jvm.MethodName)).before a0 Z = true := hw _ (List.mem_of_getElem? (i := 212) rfl)
theorem w213 {a0 : Array Value} {Z : State} (hw : Hw a0 Z) : (Jvm.Cond.instanceMethod ({ cls := "java/util/AbstractCollection", name := "<init>", desc := "()V" } : Jvm.MethodName)).before a0 Z = true := hw _ (List.mem_of_getElem? (i := 213) rfl)
theorem w216 {a0 : Array Value} {Z : State} (hw : Hw a0 Z) : (Jvm.Cond.initialized "java/util/AbstractCollection").before a0 Z = true := hw _ (List.mem_of_getElem? (i := 216) rfl)
theorem w217 {a0 : Array Value} {Z : State} (hw : Hw a0 Z) : (Jvm.Cond.code ({ cls := "java/util/AbstractCollection", name := "<init>", desc := "()V" } : Jvm.MethodName) jdk_22_method_1_code (1 : Nat) (Option.none : Option Jvm.ClassFile.FieldType)).before a0 Z = true := hw _ (List.mem_of_getElem? (i := 217) rfl)
theorem w218 {a0 : Array Value} {Z : State} (hw : Hw a0 Z) : (Jvm.Cond.methodLink "java/util/AbstractCollection" (1 : Nat) ({ cls := "java/lang/Object", name := "<init>", desc := "()V" } : Jvm.MethodName)).before a0 Z = true := hw _ (List.mem_of_getElem? (i := 218) rfl)
theorem w219 {a0 : Array Value} {Z : State} (hw : Hw a0 Z) : (Jvm.Cond.fieldLink "java/util/AbstractList" (7 : Nat) "java/util/AbstractList" "modCount" "I").before a0 Z = true := hw _ (List.mem_of_getElem? (i := 219) rfl)
theorem w220 {a0 : Array Value} {Z : State} (hw : Hw a0 Z) : (Jvm.Cond.lays "java/util/ArrayList" "java/util/AbstractList" "modCount" "I").before a0 Z = true := hw _ (List.mem_of_getElem? (i := 220) rfl)
theorem w221 {a0 : Array Value} {Z : State} (hw : Hw a0 Z) : (Jvm.Cond.fieldLink "java/util/ArrayList" (39 : Nat) "java/util/ArrayList" "DEFAULTCAPACITY_EMPTY_ELEMENTDATA" "[Ljava/lang/Object;").before a0 Z = true := hw _ (List.mem_of_getElem? (i := 221) rfl)
theorem w222 {a0 : Array Value} {Z : State} (hw : Hw a0 Z) : (Jvm.Cond.fieldLink "java/util/ArrayList" (9 : Nat) "java/util/ArrayList" "elementData" "[Ljava/lang/Object;").before a0 Z = true := hw _ (List.mem_of_getElem? (i := 222) rfl)
theorem w223 {a0 : Array Value} {Z : State} (hw : Hw a0 Z) : (Jvm.Cond.lays "java/util/ArrayList" "java/util/ArrayList" "elementData" "[Ljava/lang/Object;").before a0 Z = true := hw _ (List.mem_of_getElem? (i := 223) rfl)
theorem w224 {a0 : Array Value} {Z : State} (hw : Hw a0 Z) : (Jvm.Cond.arrayOver (Jvm.ClassFile.FieldType.object "java/lang/String")).before a0 Z = true := hw _ (List.mem_of_getElem? (i := 224) rfl)
theorem w225 {a0 : Array Value} {Z : State} (hw : Hw a0 Z) : (Jvm.Cond.methodLink "com/example/ply3/ply3/Target" (48 : Nat) ({ cls := "com/example/ply3/ply3/Target", name := "firstInvalid", desc := "([Ljava/lang/String;)I" } : Jvm.MethodName)).before a0 Z = true := hw _ (List.mem_of_getElem? (i := 225) rfl)
theorem w226 {a0 : Array Value} {Z : State} (hw : Hw a0 Z) : (Jvm.Cond.static ({ cls := "com/example/ply3/ply3/Target", name := "firstInvalid", desc := "([Ljava/lang/String;)I" } : Jvm.MethodName)).before a0 Z = true := hw _ (List.mem_of_getElem? (i := 226) rfl)
theorem w227 {a0 : Array Value} {Z : State} (hw : Hw a0 Z) : (Jvm.Cond.code ({ cls := "com/example/ply3/ply3/Target", name := "firstInvalid", desc := "([Ljava/lang/String;)I" } : Jvm.MethodName) prog_31_method_5_code (2 : Nat) (Option.some Jvm.ClassFile.FieldType.int)).before a0 Z = true := hw _ (List.mem_of_getElem? (i := 227) rfl)
theorem w228 {a0 : Array Value} {Z : State} (hw : Hw a0 Z) : (Jvm.Cond.methodLink "com/example/ply3/ply3/Target" (106 : Nat) ({ cls := "com/example/ply3/ply3/Target", name := "isSegment", desc := "(Ljava/lang/String;)Z" } : Jvm.MethodName)).before a0 Z = true := hw _ (List.mem_of_getElem? (i := 228) rfl)
theorem w229 {a0 : Array Value} {Z : State} (hw : Hw a0 Z) : (Jvm.Cond.static ({ cls := "com/example/ply3/ply3/Target", name := "isSegment", desc := "(Ljava/lang/String;)Z" } : Jvm.MethodName)).before a0 Z = true := hw _ (List.mem_of_getElem? (i := 229) rfl)
theorem w230 {a0 : Array Value} {Z : State} (hw : Hw a0 Z) : (Jvm.Cond.code ({ cls := "com/example/ply3/ply3/Target", name := "isSegment", desc := "(Ljava/lang/String;)Z" } : Jvm.MethodName) prog_31_method_6_code (2 : Nat) (Option.some Jvm.ClassFile.FieldType.boolean)).before a0 Z = true := hw _ (List.mem_of_getElem? (i := 230) rfl)
theorem w231 {a0 : Array Value} {Z : State} (hw : Hw a0 Z) : (Jvm.Cond.methodLink "com/example/ply3/ply3/Target" (59 : Nat) ({ cls := "java/lang/String", name := "isEmpty", desc := "()Z" } : Jvm.MethodName)).before a0 Z = true := hw _ (List.mem_of_getElem? (i := 231) rfl)
theorem w232 {a0 : Array Value} {Z : State} (hw : Hw a0 Z) : (Jvm.Cond.declares ({ cls := "java/lang/String", name := "isEmpty", desc := "()Z" } : Jvm.MethodName)).before a0 Z = true := hw _ (List.mem_of_getElem? (i := 232) rfl)
theorem w233 {a0 : Array Value} {Z : State} (hw : Hw a0 Z) : (Jvm.Cond.instanceMethod ({ cls := "java/lang/String", name := "isEmpty", desc := "()Z" } : Jvm.MethodName)).before a0 Z = true := hw _ (List.mem_of_getElem? (i := 233) rfl)
theorem w234 {a0 : Array Value} {Z : State} (hw : Hw a0 Z) : (Jvm.Cond.selects "java/lang/String" ({ cls := "java/lang/String", name := "isEmpty", desc := "()Z" } : Jvm.MethodName) ({ cls := "java/lang/String", name := "isEmpty", desc := "()Z" } : Jvm.MethodName)).before a0 Z = true := hw _ (List.mem_of_getElem? (i := 234) rfl)
theorem w235 {a0 : Array Value} {Z : State} (hw : Hw a0 Z) : (Jvm.Cond.code ({ cls := "java/lang/String", name := "isEmpty", desc := "()Z" } : Jvm.MethodName) jdk_42_method_55_code (1 : Nat) (Option.some Jvm.ClassFile.FieldType.boolean)).before a0 Z = true := hw _ (List.mem_of_getElem? (i := 235) rfl)
theorem w236 {a0 : Array Value} {Z : State} (hw : Hw a0 Z) : (Jvm.Cond.methodLink "com/example/ply3/ply3/Target" (65 : Nat) ({ cls := "java/lang/String", name := "charAt", desc := "(I)C" } : Jvm.MethodName)).before a0 Z = true := hw _ (List.mem_of_getElem? (i := 236) rfl)
theorem w237 {a0 : Array Value} {Z : State} (hw : Hw a0 Z) : (Jvm.Cond.methodLink "com/example/ply3/ply3/Target" (69 : Nat) ({ cls := "com/example/ply3/ply3/Target", name := "isAllowed", desc := "(C)Z" } : Jvm.MethodName)).before a0 Z = true := hw _ (List.mem_of_getElem? (i := 237) rfl)
theorem w238 {a0 : Array Value} {Z : State} (hw : Hw a0 Z) : (Jvm.Cond.static ({ cls := "com/example/ply3/ply3/Target", name := "isAllowed", desc := "(C)Z" } : Jvm.MethodName)).before a0 Z = true := hw _ (List.mem_of_getElem? (i := 238) rfl)
theorem w239 {a0 : Array Value} {Z : State} (hw : Hw a0 Z) : (Jvm.Cond.code ({ cls := "com/example/ply3/ply3/Target", name := "isAllowed", desc := "(C)Z" } : Jvm.MethodName) prog_31_method_7_code (1 : Nat) (Option.some Jvm.ClassFile.FieldType.boolean)).before a0 Z = true := hw _ (List.mem_of_getElem? (i := 239) rfl)
theorem w240 {a0 : Array Value} {Z : State} (hw : Hw a0 Z) : (Jvm.Cond.classLink "com/example/ply3/ply3/Target" (8 : Nat) "com/example/ply3/ply3/Target").before a0 Z = true := hw _ (List.mem_of_getElem? (i := 240) rfl)
theorem w241 {a0 : Array Value} {Z : State} (hw : Hw a0 Z) : (Jvm.Cond.instantiable "com/example/ply3/ply3/Target" (2 : Nat)).before a0 Z = true := hw _ (List.mem_of_getElem? (i := 241) rfl)
theorem w242 {a0 : Array Value} {Z : State} (hw : Hw a0 Z) : (Jvm.Cond.methodLink "com/example/ply3/ply3/Target" (56 : Nat) ({ cls := "java/util/List", name := "of", desc := "([Ljava/lang/Object;)Ljava/util/List;" } : Jvm.MethodName)).before a0 Z = true := hw _ (List.mem_of_getElem? (i := 242) rfl)
theorem w243 {a0 : Array Value} {Z : State} (hw : Hw a0 Z) : (Jvm.Cond.static ({ cls := "java/util/List", name := "of", desc := "([Ljava/lang/Object;)Ljava/util/List;" } : Jvm.MethodName)).before a0 Z = true := hw _ (List.mem_of_getElem? (i := 243) rfl)
theorem w244 {a0 : Array Value} {Z : State} (hw : Hw a0 Z) : (Jvm.Cond.initialized "java/util/List").before a0 Z = true := hw _ (List.mem_of_getElem? (i := 244) rfl)
theorem w245 {a0 : Array Value} {Z : State} (hw : Hw a0 Z) : (Jvm.Cond.code ({ cls := "java/util/List", name := "of", desc := "([Ljava/lang/Object;)Ljava/util/List;" } : Jvm.MethodName) jdk_40_method_47_code (2 : Nat) (Option.some (Jvm.ClassFile.FieldType.object "java/util/List"))).before a0 Z = true := hw _ (List.mem_of_getElem? (i := 245) rfl)
theorem w246 {a0 : Array Value} {Z : State} (hw : Hw a0 Z) : (Jvm.Cond.classLink "java/util/List" (96 : Nat) "java/util/ImmutableCollections$List12").before a0 Z = true := hw _ (List.mem_of_getElem? (i := 246) rfl)
theorem w247 {a0 : Array Value} {Z : State} (hw : Hw a0 Z) : (Jvm.Cond.instantiable "java/util/ImmutableCollections$List12" (2 : Nat)).before a0 Z = true := hw _ (List.mem_of_getElem? (i := 247) rfl)
theorem w248 {a0 : Array Value} {Z : State} (hw : Hw a0 Z) : (Jvm.Cond.initialized "java/util/ImmutableCollections$List12").before a0 Z = true := hw _ (List.mem_of_getElem? (i := 248) rfl)
theorem w249 {a0 : Array Value} {Z : State} (hw : Hw a0 Z) : (Jvm.Cond.methodLink "java/util/List" (98 : Nat) ({ cls := "java/util/ImmutableCollections$List12", name := "<init>", desc := "(Ljava/lang/Object;)V" } : Jvm.MethodName)).before a0 Z = true := hw _ (List.mem_of_getElem? (i := 249) rfl)
theorem w250 {a0 : Array Value} {Z : State} (hw : Hw a0 Z) : (Jvm.Cond.instanceMethod ({ cls := "java/util/ImmutableCollections$List12", name := "<init>", desc := "(Ljava/lang/Object;)V" } : Jvm.MethodName)).before a0 Z = true := hw _ (List.mem_of_getElem? (i := 250) rfl)
theorem w252 {a0 : Array Value} {Z : State} (hw : Hw a0 Z) : (Jvm.Cond.code ({ cls := "java/util/ImmutableCollections$List12", name := "<init>", desc := "(Ljava/lang/Object;)V" } : Jvm.MethodName) jdk_44_method_1_code (2 : Nat) (Option.none : Option Jvm.ClassFile.FieldType)).before a0 Z = true := hw _ (List.mem_of_getElem? (i := 252) rfl)
theorem w253 {a0 : Array Value} {Z : State} (hw : Hw a0 Z) : (Jvm.Cond.methodLink "java/util/ImmutableCollections$List12" (1 : Nat) ({ cls := "java/util/ImmutableCollections$AbstractImmutableList", name := "<init>", desc := "()V" } : Jvm.MethodName)).before a0 Z = true := hw _ (List.mem_of_getElem? (i := 253) rfl)
theorem w254 {a0 : Array Value} {Z : State} (hw : Hw a0 Z) : (Jvm.Cond.instanceMethod ({ cls := "java/util/ImmutableCollections$AbstractImmutableList", name := "<init>", desc := "()V" } : Jvm.MethodName)).before a0 Z = true := hw _ (List.mem_of_getElem? (i := 254) rfl)
theorem w257 {a0 : Array Value} {Z : State} (hw : Hw a0 Z) : (Jvm.Cond.initialized "java/util/ImmutableCollections$AbstractImmutableList").before a0 Z = true := hw _ (List.mem_of_getElem? (i := 257) rfl)
theorem w258 {a0 : Array Value} {Z : State} (hw : Hw a0 Z) : (Jvm.Cond.code ({ cls := "java/util/ImmutableCollections$AbstractImmutableList", name := "<init>", desc := "()V" } : Jvm.MethodName) jdk_46_method_1_code (1 : Nat) (Option.none : Option Jvm.ClassFile.FieldType)).before a0 Z = true := hw _ (List.mem_of_getElem? (i := 258) rfl)
theorem w259 {a0 : Array Value} {Z : State} (hw : Hw a0 Z) : (Jvm.Cond.methodLink "java/util/ImmutableCollections$AbstractImmutableList" (1 : Nat) ({ cls := "java/util/ImmutableCollections$AbstractImmutableCollection", name := "<init>", desc := "()V" } : Jvm.MethodName)).before a0 Z = true := hw _ (List.mem_of_getElem? (i := 259) rfl)
theorem w260 {a0 : Array Value} {Z : State} (hw : Hw a0 Z) : (Jvm.Cond.instanceMethod ({ cls := "java/util/ImmutableCollections$AbstractImmutableCollection", name := "<init>", desc := "()V" } : Jvm.MethodName)).before a0 Z = true := hw _ (List.mem_of_getElem? (i := 260) rfl)
theorem w263 {a0 : Array Value} {Z : State} (hw : Hw a0 Z) : (Jvm.Cond.initialized "java/util/ImmutableCollections$AbstractImmutableCollection").before a0 Z = true := hw _ (List.mem_of_getElem? (i := 263) rfl)
theorem w264 {a0 : Array Value} {Z : State} (hw : Hw a0 Z) : (Jvm.Cond.code ({ cls := "java/util/ImmutableCollections$AbstractImmutableCollection", name := "<init>", desc := "()V" } : Jvm.MethodName) jdk_47_method_1_code (1 : Nat) (Option.none : Option Jvm.ClassFile.FieldType)).before a0 Z = true := hw _ (List.mem_of_getElem? (i := 264) rfl)
theorem w265 {a0 : Array Value} {Z : State} (hw : Hw a0 Z) : (Jvm.Cond.methodLink "java/util/ImmutableCollections$AbstractImmutableCollection" (1 : Nat) ({ cls := "java/util/AbstractCollection", name := "<init>", desc := "()V" } : Jvm.MethodName)).before a0 Z = true := hw _ (List.mem_of_getElem? (i := 265) rfl)
theorem w267 {a0 : Array Value} {Z : State} (hw : Hw a0 Z) : (Jvm.Cond.methodLink "java/util/ImmutableCollections$List12" (7 : Nat) ({ cls := "java/util/Objects", name := "requireNonNull", desc := "(Ljava/lang/Object;)Ljava/lang/Object;" } : Jvm.MethodName)).before a0 Z = true := hw _ (List.mem_of_getElem? (i := 267) rfl)
theorem w268 {a0 : Array Value} {Z : State} (hw : Hw a0 Z) : (Jvm.Cond.static ({ cls := "java/util/Objects", name := "requireNonNull", desc := "(Ljava/lang/Object;)Ljava/lang/Object;" } : Jvm.MethodName)).before a0 Z = true := hw _ (List.mem_of_getElem? (i := 268) rfl)
theorem w269 {a0 : Array Value} {Z : State} (hw : Hw a0 Z) : (Jvm.Cond.initialized "java/util/Objects").before a0 Z = true := hw _ (List.mem_of_getElem? (i := 269) rfl)
theorem w270 {a0 : Array Value} {Z : State} (hw : Hw a0 Z) : (Jvm.Cond.code ({ cls := "java/util/Objects", name := "requireNonNull", desc := "(Ljava/lang/Object;)Ljava/lang/Object;" } : Jvm.MethodName) jdk_31_method_10_code (1 : Nat) (Option.some (Jvm.ClassFile.FieldType.object "java/lang/Object"))).before a0 Z = true := hw _ (List.mem_of_getElem? (i := 270) rfl)
theorem w271 {a0 : Array Value} {Z : State} (hw : Hw a0 Z) : (Jvm.Cond.fieldLink "java/util/ImmutableCollections$List12" (13 : Nat) "java/util/ImmutableCollections$List12" "e0" "Ljava/lang/Object;").before a0 Z = true := hw _ (List.mem_of_getElem? (i := 271) rfl)
theorem w272 {a0 : Array Value} {Z : State} (hw : Hw a0 Z) : (Jvm.Cond.laysFinal "java/util/ImmutableCollections$List12" "java/util/ImmutableCollections$List12" "e0" "Ljava/lang/Object;").before a0 Z = true := hw _ (List.mem_of_getElem? (i := 272) rfl)
theorem w273 {a0 : Array Value} {Z : State} (hw : Hw a0 Z) : (Jvm.Cond.fieldLinkNest "java/util/ImmutableCollections$List12" (19 : Nat) "java/util/ImmutableCollections" "EMPTY" "Ljava/lang/Object;" "java/util/ImmutableCollections").before a0 Z = true := hw _ (List.mem_of_getElem? (i := 273) rfl)
theorem w275 {a0 : Array Value} {Z : State} (hw : Hw a0 Z) : (Jvm.Cond.fieldLink "java/util/ImmutableCollections$List12" (24 : Nat) "java/util/ImmutableCollections$List12" "e1" "Ljava/lang/Object;").before a0 Z = true := hw _ (List.mem_of_getElem? (i := 275) rfl)
theorem w276 {a0 : Array Value} {Z : State} (hw : Hw a0 Z) : (Jvm.Cond.laysFinal "java/util/ImmutableCollections$List12" "java/util/ImmutableCollections$List12" "e1" "Ljava/lang/Object;").before a0 Z = true := hw _ (List.mem_of_getElem? (i := 276) rfl)
theorem w277 {a0 : Array Value} {Z : State} (hw : Hw a0 Z) : (Jvm.Cond.methodLink "com/example/ply3/ply3/Target" (33 : Nat) ({ cls := "com/example/ply3/ply3/Target", name := "<init>", desc := "(Ljava/lang/String;Ljava/util/List;)V" } : Jvm.MethodName)).before a0 Z = true := hw _ (List.mem_of_getElem? (i := 277) rfl)
theorem w278 {a0 : Array Value} {Z : State} (hw : Hw a0 Z) : (Jvm.Cond.instanceMethod ({ cls := "com/example/ply3/ply3/Target", name := "<init>", desc := "(Ljava/lang/String;Ljava/util/List;)V" } : Jvm.MethodName)).before a0 Z = true := hw _ (List.mem_of_getElem? (i := 278) rfl)
theorem w279 {a0 : Array Value} {Z : State} (hw : Hw a0 Z) : (Jvm.Cond.code ({ cls := "com/example/ply3/ply3/Target", name := "<init>", desc := "(Ljava/lang/String;Ljava/util/List;)V" } : Jvm.MethodName) prog_31_method_1_code (3 : Nat) (Option.none : Option Jvm.ClassFile.FieldType)).before a0 Z = true := hw _ (List.mem_of_getElem? (i := 279) rfl)
theorem w280 {a0 : Array Value} {Z : State} (hw : Hw a0 Z) : (Jvm.Cond.methodLink "com/example/ply3/ply3/Target" (1 : Nat) ({ cls := "java/lang/Object", name := "<init>", desc := "()V" } : Jvm.MethodName)).before a0 Z = true := hw _ (List.mem_of_getElem? (i := 280) rfl)
theorem w281 {a0 : Array Value} {Z : State} (hw : Hw a0 Z) : (Jvm.Cond.fieldLink "com/example/ply3/ply3/Target" (7 : Nat) "com/example/ply3/ply3/Target" "name" "Ljava/lang/String;").before a0 Z = true := hw _ (List.mem_of_getElem? (i := 281) rfl)
theorem w282 {a0 : Array Value} {Z : State} (hw : Hw a0 Z) : (Jvm.Cond.laysFinal "com/example/ply3/ply3/Target" "com/example/ply3/ply3/Target" "name" "Ljava/lang/String;").before a0 Z = true := hw _ (List.mem_of_getElem? (i := 282) rfl)
theorem w283 {a0 : Array Value} {Z : State} (hw : Hw a0 Z) : (Jvm.Cond.fieldLink "com/example/ply3/ply3/Target" (13 : Nat) "com/example/ply3/ply3/Target" "segments" "Ljava/util/List;").before a0 Z = true := hw _ (List.mem_of_getElem? (i := 283) rfl)
theorem w284 {a0 : Array Value} {Z : State} (hw : Hw a0 Z) : (Jvm.Cond.laysFinal "com/example/ply3/ply3/Target" "com/example/ply3/ply3/Target" "segments" "Ljava/util/List;").before a0 Z = true := hw _ (List.mem_of_getElem? (i := 284) rfl)
theorem w285 {a0 : Array Value} {Z : State} (hw : Hw a0 Z) : (Jvm.Cond.methodLink "com/example/ply3/ply3/Target" (36 : Nat) ({ cls := "java/util/Optional", name := "of", desc := "(Ljava/lang/Object;)Ljava/util/Optional;" } : Jvm.MethodName)).before a0 Z = true := hw _ (List.mem_of_getElem? (i := 285) rfl)
theorem w286 {a0 : Array Value} {Z : State} (hw : Hw a0 Z) : (Jvm.Cond.static ({ cls := "java/util/Optional", name := "of", desc := "(Ljava/lang/Object;)Ljava/util/Optional;" } : Jvm.MethodName)).before a0 Z = true := hw _ (List.mem_of_getElem? (i := 286) rfl)
theorem w287 {a0 : Array Value} {Z : State} (hw : Hw a0 Z) : (Jvm.Cond.code ({ cls := "java/util/Optional", name := "of", desc := "(Ljava/lang/Object;)Ljava/util/Optional;" } : Jvm.MethodName) jdk_32_method_3_code (1 : Nat) (Option.some (Jvm.ClassFile.FieldType.object "java/util/Optional"))).before a0 Z = true := hw _ (List.mem_of_getElem? (i := 287) rfl)
theorem w288 {a0 : Array Value} {Z : State} (hw : Hw a0 Z) : (Jvm.Cond.classLink "java/util/Optional" (2 : Nat) "java/util/Optional").before a0 Z = true := hw _ (List.mem_of_getElem? (i := 288) rfl)
theorem w289 {a0 : Array Value} {Z : State} (hw : Hw a0 Z) : (Jvm.Cond.instantiable "java/util/Optional" (1 : Nat)).before a0 Z = true := hw _ (List.mem_of_getElem? (i := 289) rfl)
theorem w290 {a0 : Array Value} {Z : State} (hw : Hw a0 Z) : (Jvm.Cond.methodLink "java/util/Optional" (17 : Nat) ({ cls := "java/util/Objects", name := "requireNonNull", desc := "(Ljava/lang/Object;)Ljava/lang/Object;" } : Jvm.MethodName)).before a0 Z = true := hw _ (List.mem_of_getElem? (i := 290) rfl)
theorem w291 {a0 : Array Value} {Z : State} (hw : Hw a0 Z) : (Jvm.Cond.methodLink "java/util/Optional" (23 : Nat) ({ cls := "java/util/Optional", name := "<init>", desc := "(Ljava/lang/Object;)V" } : Jvm.MethodName)).before a0 Z = true := hw _ (List.mem_of_getElem? (i := 291) rfl)
theorem w292 {a0 : Array Value} {Z : State} (hw : Hw a0 Z) : (Jvm.Cond.instanceMethod ({ cls := "java/util/Optional", name := "<init>", desc := "(Ljava/lang/Object;)V" } : Jvm.MethodName)).before a0 Z = true := hw _ (List.mem_of_getElem? (i := 292) rfl)
theorem w294 {a0 : Array Value} {Z : State} (hw : Hw a0 Z) : (Jvm.Cond.code ({ cls := "java/util/Optional", name := "<init>", desc := "(Ljava/lang/Object;)V" } : Jvm.MethodName) jdk_32_method_2_code (2 : Nat) (Option.none : Option Jvm.ClassFile.FieldType)).before a0 Z = true := hw _ (List.mem_of_getElem? (i := 294) rfl)
theorem w295 {a0 : Array Value} {Z : State} (hw : Hw a0 Z) : (Jvm.Cond.methodLink "java/util/Optional" (7 : Nat) ({ cls := "java/lang/Object", name := "<init>", desc := "()V" } : Jvm.MethodName)).before a0 Z = true := hw _ (List.mem_of_getElem? (i := 295) rfl)
theorem w296 {a0 : Array Value} {Z : State} (hw : Hw a0 Z) : (Jvm.Cond.lambdaSite ({ cls := "com/example/ply3/ply3/Navigator", name := "parse", desc := "(Ljava/lang/String;)Lcom/example/ply3/ply3/Target;" } : Jvm.MethodName) (5 : Nat) (26 : Nat) (Jvm.Lambda.Shape.mk "java/util/function/Supplier" "get" (Jvm.ClassFile.MethodDescriptor.mk ([] : List Jvm.ClassFile.FieldType) (Option.some (Jvm.ClassFile.FieldType.object "java/lang/Object"))) ([(Jvm.ClassFile.FieldType.object "java/lang/String")] : List Jvm.ClassFile.FieldType) (6 : Nat) "com/example/ply3/ply3/Navigator" "lambda$parse$0" (Jvm.ClassFile.MethodDescriptor.mk ([(Jvm.ClassFile.FieldType.object "java/lang/String")] : List Jvm.ClassFile.FieldType) (Option.some (Jvm.ClassFile.FieldType.object "java/lang/IllegalArgumentException"))) false (Jvm.ClassFile.MethodDescriptor.mk ([] : List Jvm.ClassFile.FieldType) (Option.some (Jvm.ClassFile.FieldType.object "java/lang/IllegalArgumentException"))))).before a0 Z = true := hw _ (List.mem_of_getElem? (i := 296) rfl)
theorem w299 {a0 : Array Value} {Z : State} (hw : Hw a0 Z) : (Jvm.Cond.instantiable "java/lang/Object" (0 : Nat)).before a0 Z = true := hw _ (List.mem_of_getElem? (i := 299) rfl)
theorem w300 {a0 : Array Value} {Z : State} (hw : Hw a0 Z) : (Jvm.Cond.methodLink "com/example/ply3/ply3/Navigator" (30 : Nat) ({ cls := "java/util/Optional", name := "orElseThrow", desc := "(Ljava/util/function/Supplier;)Ljava/lang/Object;" } : Jvm.MethodName)).before a0 Z = true := hw _ (List.mem_of_getElem? (i := 300) rfl)
theorem w301 {a0 : Array Value} {Z : State} (hw : Hw a0 Z) : (Jvm.Cond.declares ({ cls := "java/util/Optional", name := "orElseThrow", desc := "(Ljava/util/function/Supplier;)Ljava/lang/Object;" } : Jvm.MethodName)).before a0 Z = true := hw _ (List.mem_of_getElem? (i := 301) rfl)
theorem w302 {a0 : Array Value} {Z : State} (hw : Hw a0 Z) : (Jvm.Cond.instanceMethod ({ cls := "java/util/Optional", name := "orElseThrow", desc := "(Ljava/util/function/Supplier;)Ljava/lang/Object;" } : Jvm.MethodName)).before a0 Z = true := hw _ (List.mem_of_getElem? (i := 302) rfl)
theorem w303 {a0 : Array Value} {Z : State} (hw : Hw a0 Z) : (Jvm.Cond.selects "java/util/Optional" ({ cls := "java/util/Optional", name := "orElseThrow", desc := "(Ljava/util/function/Supplier;)Ljava/lang/Object;" } : Jvm.MethodName) ({ cls := "java/util/Optional", name := "orElseThrow", desc := "(Ljava/util/function/Supplier;)Ljava/lang/Object;" } : Jvm.MethodName)).before a0 Z = true := hw _ (List.mem_of_getElem? (i := 303) rfl)
theorem w304 {a0 : Array Value} {Z : State} (hw : Hw a0 Z) : (Jvm.Cond.code ({ cls := "java/util/Optional", name := "orElseThrow", desc := "(Ljava/util/function/Supplier;)Ljava/lang/Object;" } : Jvm.MethodName) jdk_32_method_18_code (2 : Nat) (Option.some (Jvm.ClassFile.FieldType.object "java/lang/Object"))).before a0 Z = true := hw _ (List.mem_of_getElem? (i := 304) rfl)
theorem w305 {a0 : Array Value} {Z : State} (hw : Hw a0 Z) : (Jvm.Cond.classLink "com/example/ply3/ply3/Navigator" (22 : Nat) "com/example/ply3/ply3/Target").before a0 Z = true := hw _ (List.mem_of_getElem? (i := 305) rfl)
theorem w307 {a0 : Array Value} {Z : State} (hw : Hw a0 Z) : (Jvm.Cond.fieldLink "com/example/ply3/ply3/Navigator" (13 : Nat) "com/example/ply3/ply3/Navigator" "redirect" "Lcom/example/ply3/ply3/Target;").before a0 Z = true := hw _ (List.mem_of_getElem? (i := 307) rfl)
theorem w308 {a0 : Array Value} {Z : State} (hw : Hw a0 Z) : (Jvm.Cond.lays "com/example/ply3/ply3/Navigator" "com/example/ply3/ply3/Navigator" "redirect" "Lcom/example/ply3/ply3/Target;").before a0 Z = true := hw _ (List.mem_of_getElem? (i := 308) rfl)
theorem w309 {a0 : Array Value} {Z : State} (hw : Hw a0 Z) : (Jvm.Cond.methodLink "com/example/ply3/ply3/NavigatorInternalRedirectPinLaw" (45 : Nat) ({ cls := "com/example/ply3/ply3/Navigator", name := "redirectTo", desc := "(Ljava/lang/String;)V" } : Jvm.MethodName)).before a0 Z = true := hw _ (List.mem_of_getElem? (i := 309) rfl)
theorem w310 {a0 : Array Value} {Z : State} (hw : Hw a0 Z) : (Jvm.Cond.declares ({ cls := "com/example/ply3/ply3/Navigator", name := "redirectTo", desc := "(Ljava/lang/String;)V" } : Jvm.MethodName)).before a0 Z = true := hw _ (List.mem_of_getElem? (i := 310) rfl)
theorem w311 {a0 : Array Value} {Z : State} (hw : Hw a0 Z) : (Jvm.Cond.instanceMethod ({ cls := "com/example/ply3/ply3/Navigator", name := "redirectTo", desc := "(Ljava/lang/String;)V" } : Jvm.MethodName)).before a0 Z = true := hw _ (List.mem_of_getElem? (i := 311) rfl)
theorem w312 {a0 : Array Value} {Z : State} (hw : Hw a0 Z) : (Jvm.Cond.selects "com/example/ply3/ply3/Navigator" ({ cls := "com/example/ply3/ply3/Navigator", name := "redirectTo", desc := "(Ljava/lang/String;)V" } : Jvm.MethodName) ({ cls := "com/example/ply3/ply3/Navigator", name := "redirectTo", desc := "(Ljava/lang/String;)V" } : Jvm.MethodName)).before a0 Z = true := hw _ (List.mem_of_getElem? (i := 312) rfl)
theorem w313 {a0 : Array Value} {Z : State} (hw : Hw a0 Z) : (Jvm.Cond.code ({ cls := "com/example/ply3/ply3/Navigator", name := "redirectTo", desc := "(Ljava/lang/String;)V" } : Jvm.MethodName) prog_14_method_2_code (2 : Nat) (Option.none : Option Jvm.ClassFile.FieldType)).before a0 Z = true := hw _ (List.mem_of_getElem? (i := 313) rfl)
theorem w314 {a0 : Array Value} {Z : State} (hw : Hw a0 Z) : (Jvm.Cond.methodLink "com/example/ply3/ply3/Navigator" (40 : Nat) ({ cls := "java/util/Optional", name := "ofNullable", desc := "(Ljava/lang/Object;)Ljava/util/Optional;" } : Jvm.MethodName)).before a0 Z = true := hw _ (List.mem_of_getElem? (i := 314) rfl)
theorem w315 {a0 : Array Value} {Z : State} (hw : Hw a0 Z) : (Jvm.Cond.static ({ cls := "java/util/Optional", name := "ofNullable", desc := "(Ljava/lang/Object;)Ljava/util/Optional;" } : Jvm.MethodName)).before a0 Z = true := hw _ (List.mem_of_getElem? (i := 315) rfl)
theorem w316 {a0 : Array Value} {Z : State} (hw : Hw a0 Z) : (Jvm.Cond.code ({ cls := "java/util/Optional", name := "ofNullable", desc := "(Ljava/lang/Object;)Ljava/util/Optional;" } : Jvm.MethodName) jdk_32_method_4_code (1 : Nat) (Option.some (Jvm.ClassFile.FieldType.object "java/util/Optional"))).before a0 Z = true := hw _ (List.mem_of_getElem? (i := 316) rfl)
theorem w317 {a0 : Array Value} {Z : State} (hw : Hw a0 Z) : (Jvm.Cond.classLink "com/example/ply3/ply3/NavigatorInternalRedirectPinLaw" (30 : Nat) "com/example/ply3/ply3/Target").before a0 Z = true := hw _ (List.mem_of_getElem? (i := 317) rfl)
theorem w318 {a0 : Array Value} {Z : State} (hw : Hw a0 Z) : (Jvm.Cond.methodLink "com/example/ply3/ply3/NavigatorInternalRedirectPinLaw" (32 : Nat) ({ cls := "com/example/ply3/ply3/Target", name := "name", desc := "()Ljava/lang/String;" } : Jvm.MethodName)).before a0 Z = true := hw _ (List.mem_of_getElem? (i := 318) rfl)
theorem w319 {a0 : Array Value} {Z : State} (hw : Hw a0 Z) : (Jvm.Cond.declares ({ cls := "com/example/ply3/ply3/Target", name := "name", desc := "()Ljava/lang/String;" } : Jvm.MethodName)).before a0 Z = true := hw _ (List.mem_of_getElem? (i := 319) rfl)
theorem w320 {a0 : Array Value} {Z : State} (hw : Hw a0 Z) : (Jvm.Cond.instanceMethod ({ cls := "com/example/ply3/ply3/Target", name := "name", desc := "()Ljava/lang/String;" } : Jvm.MethodName)).before a0 Z = true := hw _ (List.mem_of_getElem? (i := 320) rfl)
theorem w321 {a0 : Array Value} {Z : State} (hw : Hw a0 Z) : (Jvm.Cond.selects "com/example/ply3/ply3/Target" ({ cls := "com/example/ply3/ply3/Target", name := "name", desc := "()Ljava/lang/String;" } : Jvm.MethodName) ({ cls := "com/example/ply3/ply3/Target", name := "name", desc := "()Ljava/lang/String;" } : Jvm.MethodName)).before a0 Z = true := hw _ (List.mem_of_getElem? (i := 321) rfl)
theorem w322 {a0 : Array Value} {Z : State} (hw : Hw a0 Z) : (Jvm.Cond.code ({ cls := "com/example/ply3/ply3/Target", name := "name", desc := "()Ljava/lang/String;" } : Jvm.MethodName) prog_31_method_8_code (1 : Nat) (Option.some (Jvm.ClassFile.FieldType.object "java/lang/String"))).before a0 Z = true := hw _ (List.mem_of_getElem? (i := 322) rfl)
theorem w323 {a0 : Array Value} {Z : State} (hw : Hw a0 Z) : (Jvm.Cond.methodLink "com/example/ply3/ply3/NavigatorInternalRedirectPinLaw" (35 : Nat) ({ cls := "java/lang/String", name := "equals", desc := "(Ljava/lang/Object;)Z" } : Jvm.MethodName)).before a0 Z = true := hw _ (List.mem_of_getElem? (i := 323) rfl)
theorem e0_0 : decode jdk_52_method_21_code 0 = .ok (.iconst 0, 1) := by decide +kernel
theorem e0_1 : decode jdk_52_method_21_code 1 = .ok (.istore 5, 2) := by decide +kernel
theorem e0_3 : decode jdk_52_method_21_code 3 = .ok (.iload 5, 2) := by decide +kernel
theorem e0_5 : decode jdk_52_method_21_code 5 = .ok (.iload 4, 2) := by decide +kernel
theorem e0_7 : decode jdk_52_method_21_code 7 = .ok (.if_icmp .ge 37, 3) := by decide +kernel
theorem e0_10 : decode jdk_52_method_21_code 10 = .ok (.aload_n 0, 1) := by decide +kernel
theorem e0_11 : decode jdk_52_method_21_code 11 = .ok (.iload_n 1, 1) := by decide +kernel
theorem e0_12 : decode jdk_52_method_21_code 12 = .ok (.caload, 1) := by decide +kernel
theorem e0_13 : decode jdk_52_method_21_code 13 = .ok (.istore 6, 2) := by decide +kernel
theorem e0_15 : decode jdk_52_method_21_code 15 = .ok (.iload 6, 2) := by decide +kernel
theorem e0_17 : decode jdk_52_method_21_code 17 = .ok (.sipush 255, 3) := by decide +kernel
theorem e0_20 : decode jdk_52_method_21_code 20 = .ok (.if_icmp .le 6, 3) := by decide +kernel
theorem e0_23 : decode jdk_52_method_21_code 23 = .ok (.iload 5, 2) := by decide +kernel
theorem e0_25 : decode jdk_52_method_21_code 25 = .ok (.ireturn, 1) := by decide +kernel
theorem e0_26 : decode jdk_52_method_21_code 26 = .ok (.aload_n 2, 1) := by decide +kernel
theorem e0_27 : decode jdk_52_method_21_code 27 = .ok (.iload_n 3, 1) := by decide +kernel
theorem e0_28 : decode jdk_52_method_21_code 28 = .ok (.iload 6, 2) := by decide +kernel
theorem e0_30 : decode jdk_52_method_21_code 30 = .ok (.i2b, 1) := by decide +kernel
theorem e0_31 : decode jdk_52_method_21_code 31 = .ok (.bastore, 1) := by decide +kernel
theorem e0_32 : decode jdk_52_method_21_code 32 = .ok (.iinc 1 1, 3) := by decide +kernel
theorem e0_35 : decode jdk_52_method_21_code 35 = .ok (.iinc 3 1, 3) := by decide +kernel
theorem e0_38 : decode jdk_52_method_21_code 38 = .ok (.iinc 5 1, 3) := by decide +kernel
theorem e0_41 : decode jdk_52_method_21_code 41 = .ok (.goto (-38), 3) := by decide +kernel
theorem e0_44 : decode jdk_52_method_21_code 44 = .ok (.iload 4, 2) := by decide +kernel
theorem e0_46 : decode jdk_52_method_21_code 46 = .ok (.ireturn, 1) := by decide +kernel
theorem e1_0 : decode jdk_52_method_16_code 0 = .ok (.iload_n 2, 1) := by decide +kernel
theorem e1_1 : decode jdk_52_method_16_code 1 = .ok (.newarray .byte, 2) := by decide +kernel
theorem e1_3 : decode jdk_52_method_16_code 3 = .ok (.astore_n 3, 1) := by decide +kernel
theorem e1_4 : decode jdk_52_method_16_code 4 = .ok (.aload_n 0, 1) := by decide +kernel
theorem e1_5 : decode jdk_52_method_16_code 5 = .ok (.iload_n 1, 1) := by decide +kernel
theorem e1_6 : decode jdk_52_method_16_code 6 = .ok (.aload_n 3, 1) := by decide +kernel
theorem e1_7 : decode jdk_52_method_16_code 7 = .ok (.iconst 0, 1) := by decide +kernel
theorem e1_8 : decode jdk_52_method_16_code 8 = .ok (.iload_n 2, 1) := by decide +kernel
theorem e1_9 : decode jdk_52_method_16_code 9 = .ok (.invokestatic 115, 3) := by decide +kernel
theorem e1_12 : decode jdk_52_method_16_code 12 = .ok (.istore 4, 2) := by decide +kernel
theorem e1_14 : decode jdk_52_method_16_code 14 = .ok (.iload 4, 2) := by decide +kernel
theorem e1_16 : decode jdk_52_method_16_code 16 = .ok (.iload_n 2, 1) := by decide +kernel
theorem e1_17 : decode jdk_52_method_16_code 17 = .ok (.if_icmp .eq 40, 3) := by decide +kernel
theorem e1_57 : decode jdk_52_method_16_code 57 = .ok (.aload_n 3, 1) := by decide +kernel
theorem e1_58 : decode jdk_52_method_16_code 58 = .ok (.areturn, 1) := by decide +kernel
theorem e2_0 : decode jdk_52_method_15_code 0 = .ok (.iload_n 1, 1) := by decide +kernel
theorem e2_1 : decode jdk_52_method_15_code 1 = .ok (.aload_n 0, 1) := by decide +kernel
theorem e2_2 : decode jdk_52_method_15_code 2 = .ok (.arraylength, 1) := by decide +kernel
theorem e2_3 : decode jdk_52_method_15_code 3 = .ok (.isub, 1) := by decide +kernel
theorem e2_4 : decode jdk_52_method_15_code 4 = .ok (.bipush 31, 2) := by decide +kernel
theorem e2_6 : decode jdk_52_method_15_code 6 = .ok (.iushr, 1) := by decide +kernel
theorem e2_7 : decode jdk_52_method_15_code 7 = .ok (.i2b, 1) := by decide +kernel
theorem e2_8 : decode jdk_52_method_15_code 8 = .ok (.ireturn, 1) := by decide +kernel
theorem e3_0 : decode jdk_42_method_149_code 0 = .ok (.aload_n 0, 1) := by decide +kernel
theorem e3_1 : decode jdk_42_method_149_code 1 = .ok (.invokespecial 1, 3) := by decide +kernel
theorem e3_4 : decode jdk_42_method_149_code 4 = .ok (.iload_n 3, 1) := by decide +kernel
theorem e3_5 : decode jdk_42_method_149_code 5 = .ok (.ifCond .ne 22, 3) := by decide +kernel
theorem e3_27 : decode jdk_42_method_149_code 27 = .ok (.getstatic 38, 3) := by decide +kernel
theorem e3_30 : decode jdk_42_method_149_code 30 = .ok (.ifCond .eq 28, 3) := by decide +kernel
theorem e3_33 : decode jdk_42_method_149_code 33 = .ok (.aload_n 1, 1) := by decide +kernel
theorem e3_34 : decode jdk_42_method_149_code 34 = .ok (.iload_n 2, 1) := by decide +kernel
theorem e3_35 : decode jdk_42_method_149_code 35 = .ok (.iload_n 3, 1) := by decide +kernel
theorem e3_36 : decode jdk_42_method_149_code 36 = .ok (.invokestatic 177, 3) := by decide +kernel
theorem e3_39 : decode jdk_42_method_149_code 39 = .ok (.astore 5, 2) := by decide +kernel
theorem e3_41 : decode jdk_42_method_149_code 41 = .ok (.aload_n 0, 1) := by decide +kernel
theorem e3_42 : decode jdk_42_method_149_code 42 = .ok (.aload 5, 2) := by decide +kernel
theorem e3_44 : decode jdk_42_method_149_code 44 = .ok (.iload_n 3, 1) := by decide +kernel
theorem e3_45 : decode jdk_42_method_149_code 45 = .ok (.invokestatic 47, 3) := by decide +kernel
theorem e3_48 : decode jdk_42_method_149_code 48 = .ok (.putfield 15, 3) := by decide +kernel
theorem e3_51 : decode jdk_42_method_149_code 51 = .ok (.aload_n 0, 1) := by decide +kernel
theorem e3_52 : decode jdk_42_method_149_code 52 = .ok (.aload 5, 2) := by decide +kernel
theorem e3_54 : decode jdk_42_method_149_code 54 = .ok (.putfield 9, 3) := by decide +kernel
theorem e3_57 : decode jdk_42_method_149_code 57 = .ok (.return_, 1) := by decide +kernel
theorem e4_0 : decode jdk_42_method_3_code 0 = .ok (.aload_n 0, 1) := by decide +kernel
theorem e4_1 : decode jdk_42_method_3_code 1 = .ok (.aload_n 1, 1) := by decide +kernel
theorem e4_2 : decode jdk_42_method_3_code 2 = .ok (.iconst 0, 1) := by decide +kernel
theorem e4_3 : decode jdk_42_method_3_code 3 = .ok (.aload_n 1, 1) := by decide +kernel
theorem e4_4 : decode jdk_42_method_3_code 4 = .ok (.arraylength, 1) := by decide +kernel
theorem e4_5 : decode jdk_42_method_3_code 5 = .ok (.aconst_null, 1) := by decide +kernel
theorem e4_6 : decode jdk_42_method_3_code 6 = .ok (.invokespecial 27, 3) := by decide +kernel
theorem e4_9 : decode jdk_42_method_3_code 9 = .ok (.return_, 1) := by decide +kernel
theorem e5_0 : decode method_4_code 0 = .ok (.iload_n 0, 1) := by decide +kernel
theorem e5_1 : decode method_4_code 1 = .ok (.bipush 63, 2) := by decide +kernel
theorem e5_3 : decode method_4_code 3 = .ok (.iand, 1) := by decide +kernel
theorem e5_4 : decode method_4_code 4 = .ok (.istore_n 1, 1) := by decide +kernel
theorem e5_5 : decode method_4_code 5 = .ok (.iload_n 1, 1) := by decide +kernel
theorem e5_6 : decode method_4_code 6 = .ok (.bipush 26, 2) := by decide +kernel
theorem e5_8 : decode method_4_code 8 = .ok (.if_icmp .ge 9, 3) := by decide +kernel
theorem e5_11 : decode method_4_code 11 = .ok (.bipush 97, 2) := by decide +kernel
theorem e5_13 : decode method_4_code 13 = .ok (.iload_n 1, 1) := by decide +kernel
theorem e5_14 : decode method_4_code 14 = .ok (.iadd, 1) := by decide +kernel
theorem e5_15 : decode method_4_code 15 = .ok (.i2c, 1) := by decide +kernel
theorem e5_16 : decode method_4_code 16 = .ok (.ireturn, 1) := by decide +kernel
theorem e5_17 : decode method_4_code 17 = .ok (.iload_n 1, 1) := by decide +kernel
theorem e5_18 : decode method_4_code 18 = .ok (.bipush 52, 2) := by decide +kernel
theorem e5_20 : decode method_4_code 20 = .ok (.if_icmp .ge 12, 3) := by decide +kernel
theorem e5_23 : decode method_4_code 23 = .ok (.bipush 65, 2) := by decide +kernel
theorem e5_25 : decode method_4_code 25 = .ok (.iload_n 1, 1) := by decide +kernel
theorem e5_26 : decode method_4_code 26 = .ok (.bipush 26, 2) := by decide +kernel
theorem e5_28 : decode method_4_code 28 = .ok (.isub, 1) := by decide +kernel
theorem e5_29 : decode method_4_code 29 = .ok (.iadd, 1) := by decide +kernel
theorem e5_30 : decode method_4_code 30 = .ok (.i2c, 1) := by decide +kernel
theorem e5_31 : decode method_4_code 31 = .ok (.ireturn, 1) := by decide +kernel
theorem e5_32 : decode method_4_code 32 = .ok (.iload_n 1, 1) := by decide +kernel
theorem e5_33 : decode method_4_code 33 = .ok (.bipush 62, 2) := by decide +kernel
theorem e5_35 : decode method_4_code 35 = .ok (.if_icmp .ge 12, 3) := by decide +kernel
theorem e5_38 : decode method_4_code 38 = .ok (.bipush 48, 2) := by decide +kernel
theorem e5_40 : decode method_4_code 40 = .ok (.iload_n 1, 1) := by decide +kernel
theorem e5_41 : decode method_4_code 41 = .ok (.bipush 52, 2) := by decide +kernel
theorem e5_43 : decode method_4_code 43 = .ok (.isub, 1) := by decide +kernel
theorem e5_44 : decode method_4_code 44 = .ok (.iadd, 1) := by decide +kernel
theorem e5_45 : decode method_4_code 45 = .ok (.i2c, 1) := by decide +kernel
theorem e5_46 : decode method_4_code 46 = .ok (.ireturn, 1) := by decide +kernel
theorem e5_47 : decode method_4_code 47 = .ok (.iload_n 1, 1) := by decide +kernel
theorem e5_48 : decode method_4_code 48 = .ok (.bipush 62, 2) := by decide +kernel
theorem e5_50 : decode method_4_code 50 = .ok (.if_icmp .ne 6, 3) := by decide +kernel
theorem e5_53 : decode method_4_code 53 = .ok (.bipush 45, 2) := by decide +kernel
theorem e5_55 : decode method_4_code 55 = .ok (.ireturn, 1) := by decide +kernel
theorem e5_56 : decode method_4_code 56 = .ok (.bipush 95, 2) := by decide +kernel
theorem e5_58 : decode method_4_code 58 = .ok (.ireturn, 1) := by decide +kernel
theorem e6_0 : decode method_5_code 0 = .ok (.iload_n 0, 1) := by decide +kernel
theorem e6_1 : decode method_5_code 1 = .ok (.sipush 4096, 3) := by decide +kernel
theorem e6_4 : decode method_5_code 4 = .ok (.iand, 1) := by decide +kernel
theorem e6_5 : decode method_5_code 5 = .ok (.ifCond .ne 21, 3) := by decide +kernel
theorem e6_8 : decode method_5_code 8 = .ok (.new 36, 3) := by decide +kernel
theorem e6_11 : decode method_5_code 11 = .ok (.dup, 1) := by decide +kernel
theorem e6_12 : decode method_5_code 12 = .ok (.iconst 1, 1) := by decide +kernel
theorem e6_13 : decode method_5_code 13 = .ok (.newarray .char, 2) := by decide +kernel
theorem e6_15 : decode method_5_code 15 = .ok (.dup, 1) := by decide +kernel
theorem e6_16 : decode method_5_code 16 = .ok (.iconst 0, 1) := by decide +kernel
theorem e6_17 : decode method_5_code 17 = .ok (.iload_n 0, 1) := by decide +kernel
theorem e6_18 : decode method_5_code 18 = .ok (.invokestatic 48, 3) := by decide +kernel
theorem e6_21 : decode method_5_code 21 = .ok (.castore, 1) := by decide +kernel
theorem e6_22 : decode method_5_code 22 = .ok (.invokespecial 52, 3) := by decide +kernel
theorem e6_25 : decode method_5_code 25 = .ok (.areturn, 1) := by decide +kernel
theorem e6_26 : decode method_5_code 26 = .ok (.new 36, 3) := by decide +kernel
theorem e6_29 : decode method_5_code 29 = .ok (.dup, 1) := by decide +kernel
theorem e6_30 : decode method_5_code 30 = .ok (.iconst 2, 1) := by decide +kernel
theorem e6_31 : decode method_5_code 31 = .ok (.newarray .char, 2) := by decide +kernel
theorem e6_33 : decode method_5_code 33 = .ok (.dup, 1) := by decide +kernel
theorem e6_34 : decode method_5_code 34 = .ok (.iconst 0, 1) := by decide +kernel
theorem e6_35 : decode method_5_code 35 = .ok (.iload_n 0, 1) := by decide +kernel
theorem e6_36 : decode method_5_code 36 = .ok (.invokestatic 48, 3) := by decide +kernel
theorem e6_39 : decode method_5_code 39 = .ok (.castore, 1) := by decide +kernel
theorem e6_40 : decode method_5_code 40 = .ok (.dup, 1) := by decide +kernel
theorem e6_41 : decode method_5_code 41 = .ok (.iconst 1, 1) := by decide +kernel
theorem e6_42 : decode method_5_code 42 = .ok (.iload_n 0, 1) := by decide +kernel
theorem e6_43 : decode method_5_code 43 = .ok (.bipush 6, 2) := by decide +kernel
theorem e6_45 : decode method_5_code 45 = .ok (.iushr, 1) := by decide +kernel
theorem e6_46 : decode method_5_code 46 = .ok (.invokestatic 48, 3) := by decide +kernel
theorem e6_49 : decode method_5_code 49 = .ok (.castore, 1) := by decide +kernel
theorem e6_50 : decode method_5_code 50 = .ok (.invokespecial 52, 3) := by decide +kernel
theorem e6_53 : decode method_5_code 53 = .ok (.areturn, 1) := by decide +kernel
theorem e7_0 : decode method_3_code 0 = .ok (.iload_n 1, 1) := by decide +kernel
theorem e7_1 : decode method_3_code 1 = .ok (.ifCond .eq 11, 3) := by decide +kernel
theorem e7_12 : decode method_3_code 12 = .ok (.aload_n 0, 1) := by decide +kernel
theorem e7_13 : decode method_3_code 13 = .ok (.aload_n 2, 1) := by decide +kernel
theorem e7_14 : decode method_3_code 14 = .ok (.invokevirtual 45, 3) := by decide +kernel
theorem e8_0 : decode prog_14_method_2_code 0 = .ok (.aload_n 0, 1) := by decide +kernel
theorem e8_1 : decode prog_14_method_2_code 1 = .ok (.aload_n 1, 1) := by decide +kernel
theorem e8_2 : decode prog_14_method_2_code 2 = .ok (.invokestatic 7, 3) := by decide +kernel
theorem e9_0 : decode prog_14_method_4_code 0 = .ok (.aload_n 0, 1) := by decide +kernel
theorem e9_1 : decode prog_14_method_4_code 1 = .ok (.invokestatic 21, 3) := by decide +kernel
theorem e10_0 : decode prog_31_method_2_code 0 = .ok (.aload_n 0, 1) := by decide +kernel
theorem e10_1 : decode prog_31_method_2_code 1 = .ok (.ldc 17, 2) := by decide +kernel
theorem e10_3 : decode prog_31_method_2_code 3 = .ok (.invokevirtual 19, 3) := by decide +kernel
theorem e11_0 : decode jdk_42_method_66_code 0 = .ok (.aload_n 0, 1) := by decide +kernel
theorem e11_1 : decode jdk_42_method_66_code 1 = .ok (.aload_n 1, 1) := by decide +kernel
theorem e11_2 : decode jdk_42_method_66_code 2 = .ok (.if_acmp .ne 5, 3) := by decide +kernel
theorem e11_7 : decode jdk_42_method_66_code 7 = .ok (.aload_n 1, 1) := by decide +kernel
theorem e11_8 : decode jdk_42_method_66_code 8 = .ok (.instanceof 10, 3) := by decide +kernel
theorem e11_11 : decode jdk_42_method_66_code 11 = .ok (.ifCond .eq 43, 3) := by decide +kernel
theorem e11_14 : decode jdk_42_method_66_code 14 = .ok (.aload_n 1, 1) := by decide +kernel
theorem e11_15 : decode jdk_42_method_66_code 15 = .ok (.checkcast 10, 3) := by decide +kernel
theorem e11_18 : decode jdk_42_method_66_code 18 = .ok (.astore_n 2, 1) := by decide +kernel
theorem e11_19 : decode jdk_42_method_66_code 19 = .ok (.getstatic 38, 3) := by decide +kernel
theorem e11_22 : decode jdk_42_method_66_code 22 = .ok (.ifCond .eq 14, 3) := by decide +kernel
theorem e11_25 : decode jdk_42_method_66_code 25 = .ok (.aload_n 0, 1) := by decide +kernel
theorem e11_26 : decode jdk_42_method_66_code 26 = .ok (.getfield 15, 3) := by decide +kernel
theorem e11_29 : decode jdk_42_method_66_code 29 = .ok (.aload_n 2, 1) := by decide +kernel
theorem e11_30 : decode jdk_42_method_66_code 30 = .ok (.getfield 15, 3) := by decide +kernel
theorem e11_33 : decode jdk_42_method_66_code 33 = .ok (.if_icmp .ne 21, 3) := by decide +kernel
theorem e11_36 : decode jdk_42_method_66_code 36 = .ok (.aload_n 0, 1) := by decide +kernel
theorem e11_37 : decode jdk_42_method_66_code 37 = .ok (.getfield 9, 3) := by decide +kernel
theorem e11_40 : decode jdk_42_method_66_code 40 = .ok (.aload_n 2, 1) := by decide +kernel
theorem e11_41 : decode jdk_42_method_66_code 41 = .ok (.getfield 9, 3) := by decide +kernel
theorem e11_44 : decode jdk_42_method_66_code 44 = .ok (.invokestatic 541, 3) := by decide +kernel
theorem e12_0 : decode jdk_43_method_13_code 0 = .ok (.aload_n 0, 1) := by decide +kernel
theorem e12_1 : decode jdk_43_method_13_code 1 = .ok (.arraylength, 1) := by decide +kernel
theorem e12_2 : decode jdk_43_method_13_code 2 = .ok (.aload_n 1, 1) := by decide +kernel
theorem e12_3 : decode jdk_43_method_13_code 3 = .ok (.arraylength, 1) := by decide +kernel
theorem e12_4 : decode jdk_43_method_13_code 4 = .ok (.if_icmp .ne 30, 3) := by decide +kernel
theorem e12_7 : decode jdk_43_method_13_code 7 = .ok (.iconst 0, 1) := by decide +kernel
theorem e12_8 : decode jdk_43_method_13_code 8 = .ok (.istore_n 2, 1) := by decide +kernel
theorem e12_9 : decode jdk_43_method_13_code 9 = .ok (.iload_n 2, 1) := by decide +kernel
theorem e12_10 : decode jdk_43_method_13_code 10 = .ok (.aload_n 0, 1) := by decide +kernel
theorem e12_11 : decode jdk_43_method_13_code 11 = .ok (.arraylength, 1) := by decide +kernel
theorem e12_12 : decode jdk_43_method_13_code 12 = .ok (.if_icmp .ge 20, 3) := by decide +kernel
theorem e12_15 : decode jdk_43_method_13_code 15 = .ok (.aload_n 0, 1) := by decide +kernel
theorem e12_16 : decode jdk_43_method_13_code 16 = .ok (.iload_n 2, 1) := by decide +kernel
theorem e12_17 : decode jdk_43_method_13_code 17 = .ok (.baload, 1) := by decide +kernel
theorem e12_18 : decode jdk_43_method_13_code 18 = .ok (.aload_n 1, 1) := by decide +kernel
theorem e12_19 : decode jdk_43_method_13_code 19 = .ok (.iload_n 2, 1) := by decide +kernel
theorem e12_20 : decode jdk_43_method_13_code 20 = .ok (.baload, 1) := by decide +kernel
theorem e12_21 : decode jdk_43_method_13_code 21 = .ok (.if_icmp .eq 5, 3) := by decide +kernel
theorem e12_24 : decode jdk_43_method_13_code 24 = .ok (.iconst 0, 1) := by decide +kernel
theorem e12_25 : decode jdk_43_method_13_code 25 = .ok (.ireturn, 1) := by decide +kernel
theorem e11_47 : decode jdk_42_method_66_code 47 = .ok (.ifCond .eq 7, 3) := by decide +kernel
theorem e11_54 : decode jdk_42_method_66_code 54 = .ok (.iconst 0, 1) := by decide +kernel
theorem e11_55 : decode jdk_42_method_66_code 55 = .ok (.ireturn, 1) := by decide +kernel
theorem e10_6 : decode prog_31_method_2_code 6 = .ok (.ifCond .eq 21, 3) := by decide +kernel
theorem e10_27 : decode prog_31_method_2_code 27 = .ok (.aload_n 0, 1) := by decide +kernel
theorem e10_28 : decode prog_31_method_2_code 28 = .ok (.invokestatic 41, 3) := by decide +kernel
theorem e13_0 : decode prog_31_method_4_code 0 = .ok (.aload_n 0, 1) := by decide +kernel
theorem e13_1 : decode prog_31_method_4_code 1 = .ok (.ldc 17, 2) := by decide +kernel
theorem e13_3 : decode prog_31_method_4_code 3 = .ok (.invokevirtual 91, 3) := by decide +kernel
theorem e14_0 : decode jdk_42_method_76_code 0 = .ok (.aload_n 0, 1) := by decide +kernel
theorem e14_1 : decode jdk_42_method_76_code 1 = .ok (.aload_n 1, 1) := by decide +kernel
theorem e14_2 : decode jdk_42_method_76_code 2 = .ok (.iconst 0, 1) := by decide +kernel
theorem e14_3 : decode jdk_42_method_76_code 3 = .ok (.invokevirtual 624, 3) := by decide +kernel
theorem e15_0 : decode jdk_42_method_75_code 0 = .ok (.iload_n 2, 1) := by decide +kernel
theorem e15_1 : decode jdk_42_method_75_code 1 = .ok (.ifCond .lt 16, 3) := by decide +kernel
theorem e15_4 : decode jdk_42_method_75_code 4 = .ok (.iload_n 2, 1) := by decide +kernel
theorem e15_5 : decode jdk_42_method_75_code 5 = .ok (.aload_n 0, 1) := by decide +kernel
theorem e15_6 : decode jdk_42_method_75_code 6 = .ok (.invokevirtual 505, 3) := by decide +kernel
theorem e16_0 : decode jdk_42_method_54_code 0 = .ok (.aload_n 0, 1) := by decide +kernel
theorem e16_1 : decode jdk_42_method_54_code 1 = .ok (.getfield 9, 3) := by decide +kernel
theorem e16_4 : decode jdk_42_method_54_code 4 = .ok (.arraylength, 1) := by decide +kernel
theorem e16_5 : decode jdk_42_method_54_code 5 = .ok (.aload_n 0, 1) := by decide +kernel
theorem e16_6 : decode jdk_42_method_54_code 6 = .ok (.invokevirtual 335, 3) := by decide +kernel
theorem e17_0 : decode jdk_42_method_152_code 0 = .ok (.getstatic 38, 3) := by decide +kernel
theorem e17_3 : decode jdk_42_method_152_code 3 = .ok (.ifCond .eq 10, 3) := by decide +kernel
theorem e17_6 : decode jdk_42_method_152_code 6 = .ok (.aload_n 0, 1) := by decide +kernel
theorem e17_7 : decode jdk_42_method_152_code 7 = .ok (.getfield 15, 3) := by decide +kernel
theorem e17_10 : decode jdk_42_method_152_code 10 = .ok (.goto 4, 3) := by decide +kernel
theorem e17_14 : decode jdk_42_method_152_code 14 = .ok (.ireturn, 1) := by decide +kernel
theorem e16_9 : decode jdk_42_method_54_code 9 = .ok (.ishr, 1) := by decide +kernel
theorem e16_10 : decode jdk_42_method_54_code 10 = .ok (.ireturn, 1) := by decide +kernel
theorem e15_9 : decode jdk_42_method_75_code 9 = .ok (.aload_n 1, 1) := by decide +kernel
theorem e15_10 : decode jdk_42_method_75_code 10 = .ok (.invokevirtual 505, 3) := by decide +kernel
theorem e15_13 : decode jdk_42_method_75_code 13 = .ok (.isub, 1) := by decide +kernel
theorem e15_14 : decode jdk_42_method_75_code 14 = .ok (.if_icmp .le 5, 3) := by decide +kernel
theorem e15_19 : decode jdk_42_method_75_code 19 = .ok (.aload_n 0, 1) := by decide +kernel
theorem e15_20 : decode jdk_42_method_75_code 20 = .ok (.getfield 9, 3) := by decide +kernel
theorem e15_23 : decode jdk_42_method_75_code 23 = .ok (.astore_n 3, 1) := by decide +kernel
theorem e15_24 : decode jdk_42_method_75_code 24 = .ok (.aload_n 1, 1) := by decide +kernel
theorem e15_25 : decode jdk_42_method_75_code 25 = .ok (.getfield 9, 3) := by decide +kernel
theorem e15_28 : decode jdk_42_method_75_code 28 = .ok (.astore 4, 2) := by decide +kernel
theorem e15_30 : decode jdk_42_method_75_code 30 = .ok (.iconst 0, 1) := by decide +kernel
theorem e15_31 : decode jdk_42_method_75_code 31 = .ok (.istore 5, 2) := by decide +kernel
theorem e15_33 : decode jdk_42_method_75_code 33 = .ok (.aload 4, 2) := by decide +kernel
theorem e15_35 : decode jdk_42_method_75_code 35 = .ok (.arraylength, 1) := by decide +kernel
theorem e15_36 : decode jdk_42_method_75_code 36 = .ok (.istore 6, 2) := by decide +kernel
theorem e15_38 : decode jdk_42_method_75_code 38 = .ok (.aload_n 0, 1) := by decide +kernel
theorem e15_39 : decode jdk_42_method_75_code 39 = .ok (.invokevirtual 335, 3) := by decide +kernel
theorem e15_42 : decode jdk_42_method_75_code 42 = .ok (.istore 7, 2) := by decide +kernel
theorem e15_44 : decode jdk_42_method_75_code 44 = .ok (.iload 7, 2) := by decide +kernel
theorem e15_46 : decode jdk_42_method_75_code 46 = .ok (.aload_n 1, 1) := by decide +kernel
theorem e15_47 : decode jdk_42_method_75_code 47 = .ok (.invokevirtual 335, 3) := by decide +kernel
theorem e15_50 : decode jdk_42_method_75_code 50 = .ok (.if_icmp .ne 32, 3) := by decide +kernel
theorem e15_53 : decode jdk_42_method_75_code 53 = .ok (.iload 7, 2) := by decide +kernel
theorem e15_55 : decode jdk_42_method_75_code 55 = .ok (.iconst 1, 1) := by decide +kernel
theorem e15_56 : decode jdk_42_method_75_code 56 = .ok (.if_icmp .ne 7, 3) := by decide +kernel
theorem e15_63 : decode jdk_42_method_75_code 63 = .ok (.aload_n 3, 1) := by decide +kernel
theorem e15_64 : decode jdk_42_method_75_code 64 = .ok (.iload_n 2, 1) := by decide +kernel
theorem e15_65 : decode jdk_42_method_75_code 65 = .ok (.aload 4, 2) := by decide +kernel
theorem e15_67 : decode jdk_42_method_75_code 67 = .ok (.iconst 0, 1) := by decide +kernel
theorem e15_68 : decode jdk_42_method_75_code 68 = .ok (.iload 6, 2) := by decide +kernel
theorem e15_70 : decode jdk_42_method_75_code 70 = .ok (.invokestatic 607, 3) := by decide +kernel
theorem e18_0 : decode jdk_48_method_14_code 0 = .ok (.iconst 0, 1) := by decide +kernel
theorem e18_1 : decode jdk_48_method_14_code 1 = .ok (.istore 5, 2) := by decide +kernel
theorem e18_3 : decode jdk_48_method_14_code 3 = .ok (.iload 4, 2) := by decide +kernel
theorem e18_5 : decode jdk_48_method_14_code 5 = .ok (.bipush 7, 2) := by decide +kernel
theorem e18_7 : decode jdk_48_method_14_code 7 = .ok (.if_icmp .le 63, 3) := by decide +kernel
theorem e18_70 : decode jdk_48_method_14_code 70 = .ok (.iload 5, 2) := by decide +kernel
theorem e18_72 : decode jdk_48_method_14_code 72 = .ok (.iload 4, 2) := by decide +kernel
theorem e18_74 : decode jdk_48_method_14_code 74 = .ok (.if_icmp .ge 27, 3) := by decide +kernel
theorem e18_77 : decode jdk_48_method_14_code 77 = .ok (.aload_n 0, 1) := by decide +kernel
theorem e18_78 : decode jdk_48_method_14_code 78 = .ok (.iload_n 1, 1) := by decide +kernel
theorem e18_79 : decode jdk_48_method_14_code 79 = .ok (.iload 5, 2) := by decide +kernel
theorem e18_81 : decode jdk_48_method_14_code 81 = .ok (.iadd, 1) := by decide +kernel
theorem e18_82 : decode jdk_48_method_14_code 82 = .ok (.baload, 1) := by decide +kernel
theorem e18_83 : decode jdk_48_method_14_code 83 = .ok (.aload_n 2, 1) := by decide +kernel
theorem e18_84 : decode jdk_48_method_14_code 84 = .ok (.iload_n 3, 1) := by decide +kernel
theorem e18_85 : decode jdk_48_method_14_code 85 = .ok (.iload 5, 2) := by decide +kernel
theorem e18_87 : decode jdk_48_method_14_code 87 = .ok (.iadd, 1) := by decide +kernel
theorem e18_88 : decode jdk_48_method_14_code 88 = .ok (.baload, 1) := by decide +kernel
theorem e18_89 : decode jdk_48_method_14_code 89 = .ok (.if_icmp .eq 6, 3) := by decide +kernel
theorem e18_92 : decode jdk_48_method_14_code 92 = .ok (.iload 5, 2) := by decide +kernel
theorem e18_94 : decode jdk_48_method_14_code 94 = .ok (.ireturn, 1) := by decide +kernel
theorem e15_73 : decode jdk_42_method_75_code 73 = .ok (.ifCond .ge 7, 3) := by decide +kernel
theorem e15_80 : decode jdk_42_method_75_code 80 = .ok (.iconst 0, 1) := by decide +kernel
theorem e15_81 : decode jdk_42_method_75_code 81 = .ok (.ireturn, 1) := by decide +kernel
theorem e14_6 : decode jdk_42_method_76_code 6 = .ok (.ireturn, 1) := by decide +kernel
theorem e13_6 : decode prog_31_method_4_code 6 = .ok (.ifCond .eq 7, 3) := by decide +kernel
theorem e13_13 : decode prog_31_method_4_code 13 = .ok (.iconst 0, 1) := by decide +kernel
theorem e13_14 : decode prog_31_method_4_code 14 = .ok (.istore_n 1, 1) := by decide +kernel
theorem e13_15 : decode prog_31_method_4_code 15 = .ok (.aload_n 0, 1) := by decide +kernel
theorem e13_16 : decode prog_31_method_4_code 16 = .ok (.ldc 17, 2) := by decide +kernel
theorem e13_18 : decode prog_31_method_4_code 18 = .ok (.invokevirtual 95, 3) := by decide +kernel
theorem e19_0 : decode jdk_42_method_77_code 0 = .ok (.aload_n 0, 1) := by decide +kernel
theorem e19_1 : decode jdk_42_method_77_code 1 = .ok (.aload_n 1, 1) := by decide +kernel
theorem e19_2 : decode jdk_42_method_77_code 2 = .ok (.aload_n 0, 1) := by decide +kernel
theorem e19_3 : decode jdk_42_method_77_code 3 = .ok (.invokevirtual 505, 3) := by decide +kernel
theorem e19_6 : decode jdk_42_method_77_code 6 = .ok (.aload_n 1, 1) := by decide +kernel
theorem e19_7 : decode jdk_42_method_77_code 7 = .ok (.invokevirtual 505, 3) := by decide +kernel
theorem e19_10 : decode jdk_42_method_77_code 10 = .ok (.isub, 1) := by decide +kernel
theorem e19_11 : decode jdk_42_method_77_code 11 = .ok (.invokevirtual 624, 3) := by decide +kernel
theorem e19_14 : decode jdk_42_method_77_code 14 = .ok (.ireturn, 1) := by decide +kernel
theorem e13_21 : decode prog_31_method_4_code 21 = .ok (.ifCond .eq 12, 3) := by decide +kernel
theorem e13_33 : decode prog_31_method_4_code 33 = .ok (.aload_n 0, 1) := by decide +kernel
theorem e13_34 : decode prog_31_method_4_code 34 = .ok (.invokevirtual 98, 3) := by decide +kernel
theorem e13_37 : decode prog_31_method_4_code 37 = .ok (.istore_n 2, 1) := by decide +kernel
theorem e13_38 : decode prog_31_method_4_code 38 = .ok (.aload_n 0, 1) := by decide +kernel
theorem e13_39 : decode prog_31_method_4_code 39 = .ok (.iload_n 1, 1) := by decide +kernel
theorem e13_40 : decode prog_31_method_4_code 40 = .ok (.iload_n 2, 1) := by decide +kernel
theorem e13_41 : decode prog_31_method_4_code 41 = .ok (.invokevirtual 102, 3) := by decide +kernel
theorem e20_0 : decode jdk_42_method_92_code 0 = .ok (.aload_n 0, 1) := by decide +kernel
theorem e20_1 : decode jdk_42_method_92_code 1 = .ok (.invokevirtual 505, 3) := by decide +kernel
theorem e20_4 : decode jdk_42_method_92_code 4 = .ok (.istore_n 3, 1) := by decide +kernel
theorem e20_5 : decode jdk_42_method_92_code 5 = .ok (.iload_n 1, 1) := by decide +kernel
theorem e20_6 : decode jdk_42_method_92_code 6 = .ok (.iload_n 2, 1) := by decide +kernel
theorem e20_7 : decode jdk_42_method_92_code 7 = .ok (.iload_n 3, 1) := by decide +kernel
theorem e20_8 : decode jdk_42_method_92_code 8 = .ok (.invokestatic 521, 3) := by decide +kernel
theorem e21_0 : decode jdk_42_method_158_code 0 = .ok (.iload_n 0, 1) := by decide +kernel
theorem e21_1 : decode jdk_42_method_158_code 1 = .ok (.iload_n 1, 1) := by decide +kernel
theorem e21_2 : decode jdk_42_method_158_code 2 = .ok (.iload_n 2, 1) := by decide +kernel
theorem e21_3 : decode jdk_42_method_158_code 3 = .ok (.getstatic 1053, 3) := by decide +kernel
theorem e21_6 : decode jdk_42_method_158_code 6 = .ok (.invokestatic 1062, 3) := by decide +kernel
theorem e22_0 : decode jdk_41_method_12_code 0 = .ok (.iload_n 0, 1) := by decide +kernel
theorem e22_1 : decode jdk_41_method_12_code 1 = .ok (.ifCond .lt 13, 3) := by decide +kernel
theorem e22_4 : decode jdk_41_method_12_code 4 = .ok (.iload_n 0, 1) := by decide +kernel
theorem e22_5 : decode jdk_41_method_12_code 5 = .ok (.iload_n 1, 1) := by decide +kernel
theorem e22_6 : decode jdk_41_method_12_code 6 = .ok (.if_icmp .gt 8, 3) := by decide +kernel
theorem e22_9 : decode jdk_41_method_12_code 9 = .ok (.iload_n 1, 1) := by decide +kernel
theorem e22_10 : decode jdk_41_method_12_code 10 = .ok (.iload_n 2, 1) := by decide +kernel
theorem e22_11 : decode jdk_41_method_12_code 11 = .ok (.if_icmp .le 11, 3) := by decide +kernel
theorem e22_22 : decode jdk_41_method_12_code 22 = .ok (.iload_n 0, 1) := by decide +kernel
theorem e22_23 : decode jdk_41_method_12_code 23 = .ok (.ireturn, 1) := by decide +kernel
theorem e21_9 : decode jdk_42_method_158_code 9 = .ok (.pop, 1) := by decide +kernel
theorem e21_10 : decode jdk_42_method_158_code 10 = .ok (.return_, 1) := by decide +kernel
theorem e20_11 : decode jdk_42_method_92_code 11 = .ok (.iload_n 1, 1) := by decide +kernel
theorem e20_12 : decode jdk_42_method_92_code 12 = .ok (.ifCond .ne 10, 3) := by decide +kernel
theorem e20_15 : decode jdk_42_method_92_code 15 = .ok (.iload_n 2, 1) := by decide +kernel
theorem e20_16 : decode jdk_42_method_92_code 16 = .ok (.iload_n 3, 1) := by decide +kernel
theorem e20_17 : decode jdk_42_method_92_code 17 = .ok (.if_icmp .ne 5, 3) := by decide +kernel
theorem e20_20 : decode jdk_42_method_92_code 20 = .ok (.aload_n 0, 1) := by decide +kernel
theorem e20_21 : decode jdk_42_method_92_code 21 = .ok (.areturn, 1) := by decide +kernel
theorem e13_44 : decode prog_31_method_4_code 44 = .ok (.areturn, 1) := by decide +kernel
theorem e10_31 : decode prog_31_method_2_code 31 = .ok (.astore_n 1, 1) := by decide +kernel
theorem e10_32 : decode prog_31_method_2_code 32 = .ok (.aload_n 1, 1) := by decide +kernel
theorem e10_33 : decode prog_31_method_2_code 33 = .ok (.ldc 17, 2) := by decide +kernel
theorem e10_35 : decode prog_31_method_2_code 35 = .ok (.iconst (-1), 1) := by decide +kernel
theorem e10_36 : decode prog_31_method_2_code 36 = .ok (.invokevirtual 44, 3) := by decide +kernel
theorem e23_0 : decode jdk_42_method_101_code 0 = .ok (.aload_n 0, 1) := by decide +kernel
theorem e23_1 : decode jdk_42_method_101_code 1 = .ok (.aload_n 1, 1) := by decide +kernel
theorem e23_2 : decode jdk_42_method_101_code 2 = .ok (.iload_n 2, 1) := by decide +kernel
theorem e23_3 : decode jdk_42_method_101_code 3 = .ok (.iconst 0, 1) := by decide +kernel
theorem e23_4 : decode jdk_42_method_101_code 4 = .ok (.invokevirtual 757, 3) := by decide +kernel
theorem e24_0 : decode jdk_42_method_103_code 0 = .ok (.iconst 0, 1) := by decide +kernel
theorem e24_1 : decode jdk_42_method_103_code 1 = .ok (.istore 4, 2) := by decide +kernel
theorem e24_3 : decode jdk_42_method_103_code 3 = .ok (.aload_n 1, 1) := by decide +kernel
theorem e24_4 : decode jdk_42_method_103_code 4 = .ok (.invokevirtual 505, 3) := by decide +kernel
theorem e24_7 : decode jdk_42_method_103_code 7 = .ok (.iconst 1, 1) := by decide +kernel
theorem e24_8 : decode jdk_42_method_103_code 8 = .ok (.if_icmp .ne 21, 3) := by decide +kernel
theorem e24_11 : decode jdk_42_method_103_code 11 = .ok (.ldc_w 761, 3) := by decide +kernel
theorem e24_14 : decode jdk_42_method_103_code 14 = .ok (.aload_n 1, 1) := by decide +kernel
theorem e24_15 : decode jdk_42_method_103_code 15 = .ok (.iconst 0, 1) := by decide +kernel
theorem e24_16 : decode jdk_42_method_103_code 16 = .ok (.invokevirtual 656, 3) := by decide +kernel
theorem e25_0 : decode jdk_42_method_56_code 0 = .ok (.aload_n 0, 1) := by decide +kernel
theorem e25_1 : decode jdk_42_method_56_code 1 = .ok (.invokevirtual 492, 3) := by decide +kernel
theorem e26_0 : decode jdk_42_method_154_code 0 = .ok (.getstatic 38, 3) := by decide +kernel
theorem e26_3 : decode jdk_42_method_154_code 3 = .ok (.ifCond .eq 14, 3) := by decide +kernel
theorem e26_6 : decode jdk_42_method_154_code 6 = .ok (.aload_n 0, 1) := by decide +kernel
theorem e26_7 : decode jdk_42_method_154_code 7 = .ok (.getfield 15, 3) := by decide +kernel
theorem e26_10 : decode jdk_42_method_154_code 10 = .ok (.ifCond .ne 7, 3) := by decide +kernel
theorem e26_13 : decode jdk_42_method_154_code 13 = .ok (.iconst 1, 1) := by decide +kernel
theorem e26_14 : decode jdk_42_method_154_code 14 = .ok (.goto 4, 3) := by decide +kernel
theorem e26_18 : decode jdk_42_method_154_code 18 = .ok (.ireturn, 1) := by decide +kernel
theorem e25_4 : decode jdk_42_method_56_code 4 = .ok (.ifCond .eq 12, 3) := by decide +kernel
theorem e25_7 : decode jdk_42_method_56_code 7 = .ok (.aload_n 0, 1) := by decide +kernel
theorem e25_8 : decode jdk_42_method_56_code 8 = .ok (.getfield 9, 3) := by decide +kernel
theorem e25_11 : decode jdk_42_method_56_code 11 = .ok (.iload_n 1, 1) := by decide +kernel
theorem e25_12 : decode jdk_42_method_56_code 12 = .ok (.invokestatic 495, 3) := by decide +kernel
theorem e27_0 : decode jdk_43_method_2_code 0 = .ok (.iload_n 1, 1) := by decide +kernel
theorem e27_1 : decode jdk_43_method_2_code 1 = .ok (.aload_n 0, 1) := by decide +kernel
theorem e27_2 : decode jdk_43_method_2_code 2 = .ok (.arraylength, 1) := by decide +kernel
theorem e27_3 : decode jdk_43_method_2_code 3 = .ok (.invokestatic 9, 3) := by decide +kernel
theorem e28_0 : decode jdk_42_method_155_code 0 = .ok (.iload_n 0, 1) := by decide +kernel
theorem e28_1 : decode jdk_42_method_155_code 1 = .ok (.iload_n 1, 1) := by decide +kernel
theorem e28_2 : decode jdk_42_method_155_code 2 = .ok (.getstatic 1053, 3) := by decide +kernel
theorem e28_5 : decode jdk_42_method_155_code 5 = .ok (.invokestatic 1059, 3) := by decide +kernel
theorem e29_0 : decode jdk_41_method_11_code 0 = .ok (.iload_n 0, 1) := by decide +kernel
theorem e29_1 : decode jdk_41_method_11_code 1 = .ok (.ifCond .lt 8, 3) := by decide +kernel
theorem e29_4 : decode jdk_41_method_11_code 4 = .ok (.iload_n 0, 1) := by decide +kernel
theorem e29_5 : decode jdk_41_method_11_code 5 = .ok (.iload_n 1, 1) := by decide +kernel
theorem e29_6 : decode jdk_41_method_11_code 6 = .ok (.if_icmp .lt 10, 3) := by decide +kernel
theorem e29_16 : decode jdk_41_method_11_code 16 = .ok (.iload_n 0, 1) := by decide +kernel
theorem e29_17 : decode jdk_41_method_11_code 17 = .ok (.ireturn, 1) := by decide +kernel
theorem e28_8 : decode jdk_42_method_155_code 8 = .ok (.pop, 1) := by decide +kernel
theorem e28_9 : decode jdk_42_method_155_code 9 = .ok (.return_, 1) := by decide +kernel
theorem e27_6 : decode jdk_43_method_2_code 6 = .ok (.aload_n 0, 1) := by decide +kernel
theorem e27_7 : decode jdk_43_method_2_code 7 = .ok (.iload_n 1, 1) := by decide +kernel
theorem e27_8 : decode jdk_43_method_2_code 8 = .ok (.baload, 1) := by decide +kernel
theorem e27_9 : decode jdk_43_method_2_code 9 = .ok (.sipush 255, 3) := by decide +kernel
theorem e27_12 : decode jdk_43_method_2_code 12 = .ok (.iand, 1) := by decide +kernel
theorem e27_13 : decode jdk_43_method_2_code 13 = .ok (.i2c, 1) := by decide +kernel
theorem e27_14 : decode jdk_43_method_2_code 14 = .ok (.ireturn, 1) := by decide +kernel
theorem e25_15 : decode jdk_42_method_56_code 15 = .ok (.ireturn, 1) := by decide +kernel
theorem e24_19 : decode jdk_42_method_103_code 19 = .ok (.dup, 1) := by decide +kernel
theorem e24_20 : decode jdk_42_method_103_code 20 = .ok (.istore 4, 2) := by decide +kernel
theorem e24_22 : decode jdk_42_method_103_code 22 = .ok (.invokevirtual 763, 3) := by decide +kernel
theorem e30_0 : decode jdk_42_method_79_code 0 = .ok (.aload_n 0, 1) := by decide +kernel
theorem e30_1 : decode jdk_42_method_79_code 1 = .ok (.iload_n 1, 1) := by decide +kernel
theorem e30_2 : decode jdk_42_method_79_code 2 = .ok (.iconst 0, 1) := by decide +kernel
theorem e30_3 : decode jdk_42_method_79_code 3 = .ok (.invokevirtual 633, 3) := by decide +kernel
theorem e31_0 : decode jdk_42_method_80_code 0 = .ok (.aload_n 0, 1) := by decide +kernel
theorem e31_1 : decode jdk_42_method_80_code 1 = .ok (.invokevirtual 492, 3) := by decide +kernel
theorem e31_4 : decode jdk_42_method_80_code 4 = .ok (.ifCond .eq 19, 3) := by decide +kernel
theorem e31_7 : decode jdk_42_method_80_code 7 = .ok (.aload_n 0, 1) := by decide +kernel
theorem e31_8 : decode jdk_42_method_80_code 8 = .ok (.getfield 9, 3) := by decide +kernel
theorem e31_11 : decode jdk_42_method_80_code 11 = .ok (.iload_n 1, 1) := by decide +kernel
theorem e31_12 : decode jdk_42_method_80_code 12 = .ok (.iload_n 2, 1) := by decide +kernel
theorem e31_13 : decode jdk_42_method_80_code 13 = .ok (.aload_n 0, 1) := by decide +kernel
theorem e31_14 : decode jdk_42_method_80_code 14 = .ok (.invokevirtual 505, 3) := by decide +kernel
theorem e31_17 : decode jdk_42_method_80_code 17 = .ok (.invokestatic 637, 3) := by decide +kernel
theorem e32_0 : decode jdk_43_method_22_code 0 = .ok (.iload_n 1, 1) := by decide +kernel
theorem e32_1 : decode jdk_43_method_22_code 1 = .ok (.invokestatic 88, 3) := by decide +kernel
theorem e33_0 : decode jdk_43_method_4_code 0 = .ok (.iload_n 0, 1) := by decide +kernel
theorem e33_1 : decode jdk_43_method_4_code 1 = .ok (.ifCond .lt 14, 3) := by decide +kernel
theorem e33_4 : decode jdk_43_method_4_code 4 = .ok (.iload_n 0, 1) := by decide +kernel
theorem e33_5 : decode jdk_43_method_4_code 5 = .ok (.sipush 255, 3) := by decide +kernel
theorem e33_8 : decode jdk_43_method_4_code 8 = .ok (.if_icmp .gt 7, 3) := by decide +kernel
theorem e33_11 : decode jdk_43_method_4_code 11 = .ok (.iconst 1, 1) := by decide +kernel
theorem e33_12 : decode jdk_43_method_4_code 12 = .ok (.goto 4, 3) := by decide +kernel
theorem e33_16 : decode jdk_43_method_4_code 16 = .ok (.ireturn, 1) := by decide +kernel
theorem e32_4 : decode jdk_43_method_22_code 4 = .ok (.ifCond .ne 5, 3) := by decide +kernel
theorem e32_9 : decode jdk_43_method_22_code 9 = .ok (.iload_n 2, 1) := by decide +kernel
theorem e32_10 : decode jdk_43_method_22_code 10 = .ok (.iconst 0, 1) := by decide +kernel
theorem e32_11 : decode jdk_43_method_22_code 11 = .ok (.invokestatic 92, 3) := by decide +kernel
theorem e34_0 : decode jdk_29_method_65_code 0 = .ok (.iload_n 0, 1) := by decide +kernel
theorem e34_1 : decode jdk_29_method_65_code 1 = .ok (.iload_n 1, 1) := by decide +kernel
theorem e34_2 : decode jdk_29_method_65_code 2 = .ok (.if_icmp .lt 7, 3) := by decide +kernel
theorem e34_5 : decode jdk_29_method_65_code 5 = .ok (.iload_n 0, 1) := by decide +kernel
theorem e34_6 : decode jdk_29_method_65_code 6 = .ok (.goto 4, 3) := by decide +kernel
theorem e34_10 : decode jdk_29_method_65_code 10 = .ok (.ireturn, 1) := by decide +kernel
theorem e32_14 : decode jdk_43_method_22_code 14 = .ok (.istore_n 2, 1) := by decide +kernel
theorem e32_15 : decode jdk_43_method_22_code 15 = .ok (.iload_n 3, 1) := by decide +kernel
theorem e32_16 : decode jdk_43_method_22_code 16 = .ok (.aload_n 0, 1) := by decide +kernel
theorem e32_17 : decode jdk_43_method_22_code 17 = .ok (.arraylength, 1) := by decide +kernel
theorem e32_18 : decode jdk_43_method_22_code 18 = .ok (.invokestatic 38, 3) := by decide +kernel
theorem e35_0 : decode jdk_29_method_69_code 0 = .ok (.iload_n 0, 1) := by decide +kernel
theorem e35_1 : decode jdk_29_method_69_code 1 = .ok (.iload_n 1, 1) := by decide +kernel
theorem e35_2 : decode jdk_29_method_69_code 2 = .ok (.if_icmp .gt 7, 3) := by decide +kernel
theorem e35_5 : decode jdk_29_method_69_code 5 = .ok (.iload_n 0, 1) := by decide +kernel
theorem e35_6 : decode jdk_29_method_69_code 6 = .ok (.goto 4, 3) := by decide +kernel
theorem e35_10 : decode jdk_29_method_69_code 10 = .ok (.ireturn, 1) := by decide +kernel
theorem e32_21 : decode jdk_43_method_22_code 21 = .ok (.istore_n 3, 1) := by decide +kernel
theorem e32_22 : decode jdk_43_method_22_code 22 = .ok (.iload_n 2, 1) := by decide +kernel
theorem e32_23 : decode jdk_43_method_22_code 23 = .ok (.iload_n 3, 1) := by decide +kernel
theorem e32_24 : decode jdk_43_method_22_code 24 = .ok (.if_icmp .lt 5, 3) := by decide +kernel
theorem e32_29 : decode jdk_43_method_22_code 29 = .ok (.aload_n 0, 1) := by decide +kernel
theorem e32_30 : decode jdk_43_method_22_code 30 = .ok (.iload_n 1, 1) := by decide +kernel
theorem e32_31 : decode jdk_43_method_22_code 31 = .ok (.iload_n 2, 1) := by decide +kernel
theorem e32_32 : decode jdk_43_method_22_code 32 = .ok (.iload_n 3, 1) := by decide +kernel
theorem e32_33 : decode jdk_43_method_22_code 33 = .ok (.invokestatic 95, 3) := by decide +kernel
theorem e36_0 : decode jdk_43_method_23_code 0 = .ok (.iload_n 1, 1) := by decide +kernel
theorem e36_1 : decode jdk_43_method_23_code 1 = .ok (.i2b, 1) := by decide +kernel
theorem e36_2 : decode jdk_43_method_23_code 2 = .ok (.istore 4, 2) := by decide +kernel
theorem e36_4 : decode jdk_43_method_23_code 4 = .ok (.iload_n 2, 1) := by decide +kernel
theorem e36_5 : decode jdk_43_method_23_code 5 = .ok (.istore 5, 2) := by decide +kernel
theorem e36_7 : decode jdk_43_method_23_code 7 = .ok (.iload 5, 2) := by decide +kernel
theorem e36_9 : decode jdk_43_method_23_code 9 = .ok (.iload_n 3, 1) := by decide +kernel
theorem e36_10 : decode jdk_43_method_23_code 10 = .ok (.if_icmp .ge 21, 3) := by decide +kernel
theorem e36_13 : decode jdk_43_method_23_code 13 = .ok (.aload_n 0, 1) := by decide +kernel
theorem e36_14 : decode jdk_43_method_23_code 14 = .ok (.iload 5, 2) := by decide +kernel
theorem e36_16 : decode jdk_43_method_23_code 16 = .ok (.baload, 1) := by decide +kernel
theorem e36_17 : decode jdk_43_method_23_code 17 = .ok (.iload 4, 2) := by decide +kernel
theorem e36_19 : decode jdk_43_method_23_code 19 = .ok (.if_icmp .ne 6, 3) := by decide +kernel
theorem e36_25 : decode jdk_43_method_23_code 25 = .ok (.iinc 5 1, 3) := by decide +kernel
theorem e36_28 : decode jdk_43_method_23_code 28 = .ok (.goto (-21), 3) := by decide +kernel
theorem e36_31 : decode jdk_43_method_23_code 31 = .ok (.iconst (-1), 1) := by decide +kernel
theorem e36_32 : decode jdk_43_method_23_code 32 = .ok (.ireturn, 1) := by decide +kernel
theorem e32_36 : decode jdk_43_method_22_code 36 = .ok (.ireturn, 1) := by decide +kernel
theorem e31_20 : decode jdk_42_method_80_code 20 = .ok (.goto 16, 3) := by decide +kernel
theorem e31_36 : decode jdk_42_method_80_code 36 = .ok (.ireturn, 1) := by decide +kernel
theorem e30_6 : decode jdk_42_method_79_code 6 = .ok (.ireturn, 1) := by decide +kernel
theorem e24_25 : decode jdk_42_method_103_code 25 = .ok (.iconst (-1), 1) := by decide +kernel
theorem e24_26 : decode jdk_42_method_103_code 26 = .ok (.if_icmp .eq 69, 3) := by decide +kernel
theorem e24_95 : decode jdk_42_method_103_code 95 = .ok (.iload 4, 2) := by decide +kernel
theorem e24_97 : decode jdk_42_method_103_code 97 = .ok (.ldc_w 766, 3) := by decide +kernel
theorem e24_100 : decode jdk_42_method_103_code 100 = .ok (.if_icmp .lt 11, 3) := by decide +kernel
theorem e24_111 : decode jdk_42_method_103_code 111 = .ok (.aload_n 0, 1) := by decide +kernel
theorem e24_112 : decode jdk_42_method_103_code 112 = .ok (.iload 4, 2) := by decide +kernel
theorem e24_114 : decode jdk_42_method_103_code 114 = .ok (.iload_n 2, 1) := by decide +kernel
theorem e24_115 : decode jdk_42_method_103_code 115 = .ok (.iload_n 3, 1) := by decide +kernel
theorem e24_116 : decode jdk_42_method_103_code 116 = .ok (.invokevirtual 768, 3) := by decide +kernel
theorem e37_0 : decode jdk_42_method_104_code 0 = .ok (.iconst 0, 1) := by decide +kernel
theorem e37_1 : decode jdk_42_method_104_code 1 = .ok (.istore 4, 2) := by decide +kernel
theorem e37_3 : decode jdk_42_method_104_code 3 = .ok (.iconst 0, 1) := by decide +kernel
theorem e37_4 : decode jdk_42_method_104_code 4 = .ok (.istore 5, 2) := by decide +kernel
theorem e37_6 : decode jdk_42_method_104_code 6 = .ok (.iload_n 2, 1) := by decide +kernel
theorem e37_7 : decode jdk_42_method_104_code 7 = .ok (.ifCond .le 7, 3) := by decide +kernel
theorem e37_14 : decode jdk_42_method_104_code 14 = .ok (.iconst 0, 1) := by decide +kernel
theorem e37_15 : decode jdk_42_method_104_code 15 = .ok (.istore 7, 2) := by decide +kernel
theorem e37_17 : decode jdk_42_method_104_code 17 = .ok (.new 777, 3) := by decide +kernel
theorem e37_20 : decode jdk_42_method_104_code 20 = .ok (.dup, 1) := by decide +kernel
theorem e37_21 : decode jdk_42_method_104_code 21 = .ok (.invokespecial 779, 3) := by decide +kernel
theorem e38_0 : decode jdk_38_method_2_code 0 = .ok (.aload_n 0, 1) := by decide +kernel
theorem e38_1 : decode jdk_38_method_2_code 1 = .ok (.invokespecial 1, 3) := by decide +kernel
theorem e39_0 : decode jdk_39_method_1_code 0 = .ok (.aload_n 0, 1) := by decide +kernel
theorem e39_1 : decode jdk_39_method_1_code 1 = .ok (.invokespecial 1, 3) := by decide +kernel
theorem e40_0 : decode jdk_22_method_1_code 0 = .ok (.aload_n 0, 1) := by decide +kernel
theorem e40_1 : decode jdk_22_method_1_code 1 = .ok (.invokespecial 1, 3) := by decide +kernel
theorem e40_4 : decode jdk_22_method_1_code 4 = .ok (.return_, 1) := by decide +kernel
theorem e39_4 : decode jdk_39_method_1_code 4 = .ok (.aload_n 0, 1) := by decide +kernel
theorem e39_5 : decode jdk_39_method_1_code 5 = .ok (.iconst 0, 1) := by decide +kernel
theorem e39_6 : decode jdk_39_method_1_code 6 = .ok (.putfield 7, 3) := by decide +kernel
theorem e39_9 : decode jdk_39_method_1_code 9 = .ok (.return_, 1) := by decide +kernel
theorem e38_4 : decode jdk_38_method_2_code 4 = .ok (.aload_n 0, 1) := by decide +kernel
theorem e38_5 : decode jdk_38_method_2_code 5 = .ok (.getstatic 39, 3) := by decide +kernel
theorem e38_8 : decode jdk_38_method_2_code 8 = .ok (.putfield 9, 3) := by decide +kernel
theorem e38_11 : decode jdk_38_method_2_code 11 = .ok (.return_, 1) := by decide +kernel
theorem e37_24 : decode jdk_42_method_104_code 24 = .ok (.astore 8, 2) := by decide +kernel
theorem e37_26 : decode jdk_42_method_104_code 26 = .ok (.iload_n 3, 1) := by decide +kernel
theorem e37_27 : decode jdk_42_method_104_code 27 = .ok (.ifCond .eq 10, 3) := by decide +kernel
theorem e37_37 : decode jdk_42_method_104_code 37 = .ok (.aconst_null, 1) := by decide +kernel
theorem e37_38 : decode jdk_42_method_104_code 38 = .ok (.astore 9, 2) := by decide +kernel
theorem e37_40 : decode jdk_42_method_104_code 40 = .ok (.aload_n 0, 1) := by decide +kernel
theorem e37_41 : decode jdk_42_method_104_code 41 = .ok (.iload_n 1, 1) := by decide +kernel
theorem e37_42 : decode jdk_42_method_104_code 42 = .ok (.iload 5, 2) := by decide +kernel
theorem e37_44 : decode jdk_42_method_104_code 44 = .ok (.invokevirtual 633, 3) := by decide +kernel
theorem e37_47 : decode jdk_42_method_104_code 47 = .ok (.dup, 1) := by decide +kernel
theorem e37_48 : decode jdk_42_method_104_code 48 = .ok (.istore 6, 2) := by decide +kernel
theorem e37_50 : decode jdk_42_method_104_code 50 = .ok (.iconst (-1), 1) := by decide +kernel
theorem e37_51 : decode jdk_42_method_104_code 51 = .ok (.if_icmp .eq 84, 3) := by decide +kernel
theorem e37_135 : decode jdk_42_method_104_code 135 = .ok (.iload 5, 2) := by decide +kernel
theorem e37_137 : decode jdk_42_method_104_code 137 = .ok (.ifCond .ne 12, 3) := by decide +kernel
theorem e37_140 : decode jdk_42_method_104_code 140 = .ok (.iconst 1, 1) := by decide +kernel
theorem e37_141 : decode jdk_42_method_104_code 141 = .ok (.anewarray 10, 3) := by decide +kernel
theorem e37_144 : decode jdk_42_method_104_code 144 = .ok (.dup, 1) := by decide +kernel
theorem e37_145 : decode jdk_42_method_104_code 145 = .ok (.iconst 0, 1) := by decide +kernel
theorem e37_146 : decode jdk_42_method_104_code 146 = .ok (.aload_n 0, 1) := by decide +kernel
theorem e37_147 : decode jdk_42_method_104_code 147 = .ok (.aastore, 1) := by decide +kernel
theorem e37_148 : decode jdk_42_method_104_code 148 = .ok (.areturn, 1) := by decide +kernel
theorem e24_119 : decode jdk_42_method_103_code 119 = .ok (.areturn, 1) := by decide +kernel
theorem e23_7 : decode jdk_42_method_101_code 7 = .ok (.areturn, 1) := by decide +kernel
theorem e10_39 : decode prog_31_method_2_code 39 = .ok (.astore_n 2, 1) := by decide +kernel
theorem e10_40 : decode prog_31_method_2_code 40 = .ok (.aload_n 2, 1) := by decide +kernel
theorem e10_41 : decode prog_31_method_2_code 41 = .ok (.invokestatic 48, 3) := by decide +kernel
theorem e41_0 : decode prog_31_method_5_code 0 = .ok (.iconst 0, 1) := by decide +kernel
theorem e41_1 : decode prog_31_method_5_code 1 = .ok (.istore_n 1, 1) := by decide +kernel
theorem e41_2 : decode prog_31_method_5_code 2 = .ok (.iload_n 1, 1) := by decide +kernel
theorem e41_3 : decode prog_31_method_5_code 3 = .ok (.aload_n 0, 1) := by decide +kernel
theorem e41_4 : decode prog_31_method_5_code 4 = .ok (.arraylength, 1) := by decide +kernel
theorem e41_5 : decode prog_31_method_5_code 5 = .ok (.if_icmp .ge 20, 3) := by decide +kernel
theorem e41_8 : decode prog_31_method_5_code 8 = .ok (.aload_n 0, 1) := by decide +kernel
theorem e41_9 : decode prog_31_method_5_code 9 = .ok (.iload_n 1, 1) := by decide +kernel
theorem e41_10 : decode prog_31_method_5_code 10 = .ok (.aaload, 1) := by decide +kernel
theorem e41_11 : decode prog_31_method_5_code 11 = .ok (.invokestatic 106, 3) := by decide +kernel
theorem e42_0 : decode prog_31_method_6_code 0 = .ok (.aload_n 0, 1) := by decide +kernel
theorem e42_1 : decode prog_31_method_6_code 1 = .ok (.invokevirtual 59, 3) := by decide +kernel
theorem e43_0 : decode jdk_42_method_55_code 0 = .ok (.aload_n 0, 1) := by decide +kernel
theorem e43_1 : decode jdk_42_method_55_code 1 = .ok (.getfield 9, 3) := by decide +kernel
theorem e43_4 : decode jdk_42_method_55_code 4 = .ok (.arraylength, 1) := by decide +kernel
theorem e43_5 : decode jdk_42_method_55_code 5 = .ok (.ifCond .ne 7, 3) := by decide +kernel
theorem e43_12 : decode jdk_42_method_55_code 12 = .ok (.iconst 0, 1) := by decide +kernel
theorem e43_13 : decode jdk_42_method_55_code 13 = .ok (.ireturn, 1) := by decide +kernel
theorem e42_4 : decode prog_31_method_6_code 4 = .ok (.ifCond .eq 5, 3) := by decide +kernel
theorem e42_9 : decode prog_31_method_6_code 9 = .ok (.iconst 0, 1) := by decide +kernel
theorem e42_10 : decode prog_31_method_6_code 10 = .ok (.istore_n 1, 1) := by decide +kernel
theorem e42_11 : decode prog_31_method_6_code 11 = .ok (.iload_n 1, 1) := by decide +kernel
theorem e42_12 : decode prog_31_method_6_code 12 = .ok (.aload_n 0, 1) := by decide +kernel
theorem e42_13 : decode prog_31_method_6_code 13 = .ok (.invokevirtual 98, 3) := by decide +kernel
theorem e42_16 : decode prog_31_method_6_code 16 = .ok (.if_icmp .ge 22, 3) := by decide +kernel
theorem e42_19 : decode prog_31_method_6_code 19 = .ok (.aload_n 0, 1) := by decide +kernel
theorem e42_20 : decode prog_31_method_6_code 20 = .ok (.iload_n 1, 1) := by decide +kernel
theorem e42_21 : decode prog_31_method_6_code 21 = .ok (.invokevirtual 65, 3) := by decide +kernel
theorem e42_24 : decode prog_31_method_6_code 24 = .ok (.invokestatic 69, 3) := by decide +kernel
theorem e44_0 : decode prog_31_method_7_code 0 = .ok (.iload_n 0, 1) := by decide +kernel
theorem e44_1 : decode prog_31_method_7_code 1 = .ok (.bipush 97, 2) := by decide +kernel
theorem e44_3 : decode prog_31_method_7_code 3 = .ok (.if_icmp .lt 9, 3) := by decide +kernel
theorem e44_12 : decode prog_31_method_7_code 12 = .ok (.iload_n 0, 1) := by decide +kernel
theorem e44_13 : decode prog_31_method_7_code 13 = .ok (.bipush 65, 2) := by decide +kernel
theorem e44_15 : decode prog_31_method_7_code 15 = .ok (.if_icmp .lt 9, 3) := by decide +kernel
theorem e44_24 : decode prog_31_method_7_code 24 = .ok (.iload_n 0, 1) := by decide +kernel
theorem e44_25 : decode prog_31_method_7_code 25 = .ok (.bipush 48, 2) := by decide +kernel
theorem e44_27 : decode prog_31_method_7_code 27 = .ok (.if_icmp .lt 9, 3) := by decide +kernel
theorem e44_36 : decode prog_31_method_7_code 36 = .ok (.iload_n 0, 1) := by decide +kernel
theorem e44_37 : decode prog_31_method_7_code 37 = .ok (.bipush 45, 2) := by decide +kernel
theorem e44_39 : decode prog_31_method_7_code 39 = .ok (.if_icmp .eq 9, 3) := by decide +kernel
theorem e44_48 : decode prog_31_method_7_code 48 = .ok (.iconst 1, 1) := by decide +kernel
theorem e44_49 : decode prog_31_method_7_code 49 = .ok (.goto 4, 3) := by decide +kernel
theorem e44_53 : decode prog_31_method_7_code 53 = .ok (.ireturn, 1) := by decide +kernel
theorem e44_30 : decode prog_31_method_7_code 30 = .ok (.iload_n 0, 1) := by decide +kernel
theorem e44_31 : decode prog_31_method_7_code 31 = .ok (.bipush 57, 2) := by decide +kernel
theorem e44_33 : decode prog_31_method_7_code 33 = .ok (.if_icmp .le 15, 3) := by decide +kernel
theorem e44_18 : decode prog_31_method_7_code 18 = .ok (.iload_n 0, 1) := by decide +kernel
theorem e44_19 : decode prog_31_method_7_code 19 = .ok (.bipush 90, 2) := by decide +kernel
theorem e44_21 : decode prog_31_method_7_code 21 = .ok (.if_icmp .le 27, 3) := by decide +kernel
theorem e44_42 : decode prog_31_method_7_code 42 = .ok (.iload_n 0, 1) := by decide +kernel
theorem e44_43 : decode prog_31_method_7_code 43 = .ok (.bipush 95, 2) := by decide +kernel
theorem e44_45 : decode prog_31_method_7_code 45 = .ok (.if_icmp .ne 7, 3) := by decide +kernel
theorem e44_6 : decode prog_31_method_7_code 6 = .ok (.iload_n 0, 1) := by decide +kernel
theorem e44_7 : decode prog_31_method_7_code 7 = .ok (.bipush 122, 2) := by decide +kernel
theorem e44_9 : decode prog_31_method_7_code 9 = .ok (.if_icmp .le 39, 3) := by decide +kernel
theorem e42_27 : decode prog_31_method_6_code 27 = .ok (.ifCond .ne 5, 3) := by decide +kernel
theorem e42_32 : decode prog_31_method_6_code 32 = .ok (.iinc 1 1, 3) := by decide +kernel
theorem e42_35 : decode prog_31_method_6_code 35 = .ok (.goto (-24), 3) := by decide +kernel
theorem e42_38 : decode prog_31_method_6_code 38 = .ok (.iconst 1, 1) := by decide +kernel
theorem e42_39 : decode prog_31_method_6_code 39 = .ok (.ireturn, 1) := by decide +kernel
theorem e41_14 : decode prog_31_method_5_code 14 = .ok (.ifCond .ne 5, 3) := by decide +kernel
theorem e41_19 : decode prog_31_method_5_code 19 = .ok (.iinc 1 1, 3) := by decide +kernel
theorem e41_22 : decode prog_31_method_5_code 22 = .ok (.goto (-20), 3) := by decide +kernel
theorem e41_25 : decode prog_31_method_5_code 25 = .ok (.iconst (-1), 1) := by decide +kernel
theorem e41_26 : decode prog_31_method_5_code 26 = .ok (.ireturn, 1) := by decide +kernel
theorem e10_44 : decode prog_31_method_2_code 44 = .ok (.ifCond .lt 7, 3) := by decide +kernel
theorem e10_51 : decode prog_31_method_2_code 51 = .ok (.new 8, 3) := by decide +kernel
theorem e10_54 : decode prog_31_method_2_code 54 = .ok (.dup, 1) := by decide +kernel
theorem e10_55 : decode prog_31_method_2_code 55 = .ok (.aload_n 1, 1) := by decide +kernel
theorem e10_56 : decode prog_31_method_2_code 56 = .ok (.aload_n 2, 1) := by decide +kernel
theorem e10_57 : decode prog_31_method_2_code 57 = .ok (.invokestatic 56, 3) := by decide +kernel
theorem e45_0 : decode jdk_40_method_47_code 0 = .ok (.aload_n 0, 1) := by decide +kernel
theorem e45_1 : decode jdk_40_method_47_code 1 = .ok (.arraylength, 1) := by decide +kernel
theorem e45_2 : decode jdk_40_method_47_code 2 = .ok (.tableswitch 57 0 2 #[26, 32, 43], 26) := by decide +kernel
theorem e45_34 : decode jdk_40_method_47_code 34 = .ok (.new 96, 3) := by decide +kernel
theorem e45_37 : decode jdk_40_method_47_code 37 = .ok (.dup, 1) := by decide +kernel
theorem e45_38 : decode jdk_40_method_47_code 38 = .ok (.aload_n 0, 1) := by decide +kernel
theorem e45_39 : decode jdk_40_method_47_code 39 = .ok (.iconst 0, 1) := by decide +kernel
theorem e45_40 : decode jdk_40_method_47_code 40 = .ok (.aaload, 1) := by decide +kernel
theorem e45_41 : decode jdk_40_method_47_code 41 = .ok (.invokespecial 98, 3) := by decide +kernel
theorem e46_0 : decode jdk_44_method_1_code 0 = .ok (.aload_n 0, 1) := by decide +kernel
theorem e46_1 : decode jdk_44_method_1_code 1 = .ok (.invokespecial 1, 3) := by decide +kernel
theorem e47_0 : decode jdk_46_method_1_code 0 = .ok (.aload_n 0, 1) := by decide +kernel
theorem e47_1 : decode jdk_46_method_1_code 1 = .ok (.invokespecial 1, 3) := by decide +kernel
theorem e48_0 : decode jdk_47_method_1_code 0 = .ok (.aload_n 0, 1) := by decide +kernel
theorem e48_1 : decode jdk_47_method_1_code 1 = .ok (.invokespecial 1, 3) := by decide +kernel
theorem e48_4 : decode jdk_47_method_1_code 4 = .ok (.return_, 1) := by decide +kernel
theorem e47_4 : decode jdk_46_method_1_code 4 = .ok (.return_, 1) := by decide +kernel
theorem e46_4 : decode jdk_44_method_1_code 4 = .ok (.aload_n 0, 1) := by decide +kernel
theorem e46_5 : decode jdk_44_method_1_code 5 = .ok (.aload_n 1, 1) := by decide +kernel
theorem e46_6 : decode jdk_44_method_1_code 6 = .ok (.invokestatic 7, 3) := by decide +kernel
theorem e49_0 : decode jdk_31_method_10_code 0 = .ok (.aload_n 0, 1) := by decide +kernel
theorem e49_1 : decode jdk_31_method_10_code 1 = .ok (.ifnonnull 11, 3) := by decide +kernel
theorem e49_12 : decode jdk_31_method_10_code 12 = .ok (.aload_n 0, 1) := by decide +kernel
theorem e49_13 : decode jdk_31_method_10_code 13 = .ok (.areturn, 1) := by decide +kernel
theorem e46_9 : decode jdk_44_method_1_code 9 = .ok (.putfield 13, 3) := by decide +kernel
theorem e46_12 : decode jdk_44_method_1_code 12 = .ok (.aload_n 0, 1) := by decide +kernel
theorem e46_13 : decode jdk_44_method_1_code 13 = .ok (.getstatic 19, 3) := by decide +kernel
theorem e46_16 : decode jdk_44_method_1_code 16 = .ok (.putfield 24, 3) := by decide +kernel
theorem e46_19 : decode jdk_44_method_1_code 19 = .ok (.return_, 1) := by decide +kernel
theorem e45_44 : decode jdk_40_method_47_code 44 = .ok (.areturn, 1) := by decide +kernel
theorem e10_60 : decode prog_31_method_2_code 60 = .ok (.invokespecial 33, 3) := by decide +kernel
theorem e50_0 : decode prog_31_method_1_code 0 = .ok (.aload_n 0, 1) := by decide +kernel
theorem e50_1 : decode prog_31_method_1_code 1 = .ok (.invokespecial 1, 3) := by decide +kernel
theorem e50_4 : decode prog_31_method_1_code 4 = .ok (.aload_n 0, 1) := by decide +kernel
theorem e50_5 : decode prog_31_method_1_code 5 = .ok (.aload_n 1, 1) := by decide +kernel
theorem e50_6 : decode prog_31_method_1_code 6 = .ok (.putfield 7, 3) := by decide +kernel
theorem e50_9 : decode prog_31_method_1_code 9 = .ok (.aload_n 0, 1) := by decide +kernel
theorem e50_10 : decode prog_31_method_1_code 10 = .ok (.aload_n 2, 1) := by decide +kernel
theorem e50_11 : decode prog_31_method_1_code 11 = .ok (.putfield 13, 3) := by decide +kernel
theorem e50_14 : decode prog_31_method_1_code 14 = .ok (.return_, 1) := by decide +kernel
theorem e10_63 : decode prog_31_method_2_code 63 = .ok (.invokestatic 36, 3) := by decide +kernel
theorem e51_0 : decode jdk_32_method_3_code 0 = .ok (.new 2, 3) := by decide +kernel
theorem e51_3 : decode jdk_32_method_3_code 3 = .ok (.dup, 1) := by decide +kernel
theorem e51_4 : decode jdk_32_method_3_code 4 = .ok (.aload_n 0, 1) := by decide +kernel
theorem e51_5 : decode jdk_32_method_3_code 5 = .ok (.invokestatic 17, 3) := by decide +kernel
theorem e51_8 : decode jdk_32_method_3_code 8 = .ok (.invokespecial 23, 3) := by decide +kernel
theorem e52_0 : decode jdk_32_method_2_code 0 = .ok (.aload_n 0, 1) := by decide +kernel
theorem e52_1 : decode jdk_32_method_2_code 1 = .ok (.invokespecial 7, 3) := by decide +kernel
theorem e52_4 : decode jdk_32_method_2_code 4 = .ok (.aload_n 0, 1) := by decide +kernel
theorem e52_5 : decode jdk_32_method_2_code 5 = .ok (.aload_n 1, 1) := by decide +kernel
theorem e52_6 : decode jdk_32_method_2_code 6 = .ok (.putfield 13, 3) := by decide +kernel
theorem e52_9 : decode jdk_32_method_2_code 9 = .ok (.return_, 1) := by decide +kernel
theorem e51_11 : decode jdk_32_method_3_code 11 = .ok (.areturn, 1) := by decide +kernel
theorem e10_66 : decode prog_31_method_2_code 66 = .ok (.areturn, 1) := by decide +kernel
theorem e9_4 : decode prog_14_method_4_code 4 = .ok (.aload_n 0, 1) := by decide +kernel
theorem e9_5 : decode prog_14_method_4_code 5 = .ok (.invokedynamic 26, 5) := by decide +kernel
theorem e9_10 : decode prog_14_method_4_code 10 = .ok (.invokevirtual 30, 3) := by decide +kernel
theorem e53_0 : decode jdk_32_method_18_code 0 = .ok (.aload_n 0, 1) := by decide +kernel
theorem e53_1 : decode jdk_32_method_18_code 1 = .ok (.getfield 13, 3) := by decide +kernel
theorem e53_4 : decode jdk_32_method_18_code 4 = .ok (.ifnull 8, 3) := by decide +kernel
theorem e53_7 : decode jdk_32_method_18_code 7 = .ok (.aload_n 0, 1) := by decide +kernel
theorem e53_8 : decode jdk_32_method_18_code 8 = .ok (.getfield 13, 3) := by decide +kernel
theorem e53_11 : decode jdk_32_method_18_code 11 = .ok (.areturn, 1) := by decide +kernel
theorem e9_13 : decode prog_14_method_4_code 13 = .ok (.checkcast 22, 3) := by decide +kernel
theorem e9_16 : decode prog_14_method_4_code 16 = .ok (.areturn, 1) := by decide +kernel
theorem e8_5 : decode prog_14_method_2_code 5 = .ok (.putfield 13, 3) := by decide +kernel
theorem e8_8 : decode prog_14_method_2_code 8 = .ok (.aload_n 0, 1) := by decide +kernel
theorem e8_9 : decode prog_14_method_2_code 9 = .ok (.iconst 0, 1) := by decide +kernel
theorem e8_10 : decode prog_14_method_2_code 10 = .ok (.putfield 17, 3) := by decide +kernel
theorem e8_13 : decode prog_14_method_2_code 13 = .ok (.return_, 1) := by decide +kernel
theorem e7_17 : decode method_3_code 17 = .ok (.return_, 1) := by decide +kernel
theorem e12_34 : decode jdk_43_method_13_code 34 = .ok (.iconst 0, 1) := by decide +kernel
theorem e12_35 : decode jdk_43_method_13_code 35 = .ok (.ireturn, 1) := by decide +kernel
theorem e7_4 : decode method_3_code 4 = .ok (.aload_n 0, 1) := by decide +kernel
theorem e7_5 : decode method_3_code 5 = .ok (.aload_n 2, 1) := by decide +kernel
theorem e7_6 : decode method_3_code 6 = .ok (.invokevirtual 41, 3) := by decide +kernel
theorem e54_0 : decode prog_14_method_3_code 0 = .ok (.aload_n 0, 1) := by decide +kernel
theorem e54_1 : decode prog_14_method_3_code 1 = .ok (.aload_n 1, 1) := by decide +kernel
theorem e54_2 : decode prog_14_method_3_code 2 = .ok (.invokestatic 7, 3) := by decide +kernel
theorem e54_5 : decode prog_14_method_3_code 5 = .ok (.putfield 13, 3) := by decide +kernel
theorem e54_8 : decode prog_14_method_3_code 8 = .ok (.aload_n 0, 1) := by decide +kernel
theorem e54_9 : decode prog_14_method_3_code 9 = .ok (.iconst 1, 1) := by decide +kernel
theorem e54_10 : decode prog_14_method_3_code 10 = .ok (.putfield 17, 3) := by decide +kernel
theorem e54_13 : decode prog_14_method_3_code 13 = .ok (.return_, 1) := by decide +kernel
theorem e7_9 : decode method_3_code 9 = .ok (.goto 8, 3) := by decide +kernel
theorem e55_0 : decode prog_14_method_1_code 0 = .ok (.aload_n 0, 1) := by decide +kernel
theorem e55_1 : decode prog_14_method_1_code 1 = .ok (.invokespecial 1, 3) := by decide +kernel
theorem e55_4 : decode prog_14_method_1_code 4 = .ok (.return_, 1) := by decide +kernel
theorem e56_0 : decode prog_14_method_6_code 0 = .ok (.aload_n 0, 1) := by decide +kernel
theorem e56_1 : decode prog_14_method_6_code 1 = .ok (.getfield 17, 3) := by decide +kernel
theorem e56_4 : decode prog_14_method_6_code 4 = .ok (.ifCond .eq 13, 3) := by decide +kernel
theorem e56_17 : decode prog_14_method_6_code 17 = .ok (.invokestatic 36, 3) := by decide +kernel
theorem e57_0 : decode jdk_32_method_1_code 0 = .ok (.getstatic 1, 3) := by decide +kernel
theorem e57_3 : decode jdk_32_method_1_code 3 = .ok (.astore_n 0, 1) := by decide +kernel
theorem e57_4 : decode jdk_32_method_1_code 4 = .ok (.aload_n 0, 1) := by decide +kernel
theorem e57_5 : decode jdk_32_method_1_code 5 = .ok (.areturn, 1) := by decide +kernel
theorem e56_20 : decode prog_14_method_6_code 20 = .ok (.areturn, 1) := by decide +kernel
theorem e58_0 : decode jdk_32_method_15_code 0 = .ok (.aload_n 0, 1) := by decide +kernel
theorem e58_1 : decode jdk_32_method_15_code 1 = .ok (.getfield 13, 3) := by decide +kernel
theorem e58_4 : decode jdk_32_method_15_code 4 = .ok (.ifnull 10, 3) := by decide +kernel
theorem e58_14 : decode jdk_32_method_15_code 14 = .ok (.aload_n 1, 1) := by decide +kernel
theorem e58_15 : decode jdk_32_method_15_code 15 = .ok (.areturn, 1) := by decide +kernel
theorem e56_7 : decode prog_14_method_6_code 7 = .ok (.aload_n 0, 1) := by decide +kernel
theorem e56_8 : decode prog_14_method_6_code 8 = .ok (.getfield 13, 3) := by decide +kernel
theorem e56_11 : decode prog_14_method_6_code 11 = .ok (.invokestatic 40, 3) := by decide +kernel
theorem e59_0 : decode jdk_32_method_4_code 0 = .ok (.aload_n 0, 1) := by decide +kernel
theorem e59_1 : decode jdk_32_method_4_code 1 = .ok (.ifnonnull 9, 3) := by decide +kernel
theorem e59_10 : decode jdk_32_method_4_code 10 = .ok (.new 2, 3) := by decide +kernel
theorem e59_13 : decode jdk_32_method_4_code 13 = .ok (.dup, 1) := by decide +kernel
theorem e59_14 : decode jdk_32_method_4_code 14 = .ok (.aload_n 0, 1) := by decide +kernel
theorem e59_15 : decode jdk_32_method_4_code 15 = .ok (.invokespecial 23, 3) := by decide +kernel
theorem e59_18 : decode jdk_32_method_4_code 18 = .ok (.areturn, 1) := by decide +kernel
theorem e56_14 : decode prog_14_method_6_code 14 = .ok (.goto 6, 3) := by decide +kernel
theorem e58_7 : decode jdk_32_method_15_code 7 = .ok (.aload_n 0, 1) := by decide +kernel
theorem e58_8 : decode jdk_32_method_15_code 8 = .ok (.getfield 13, 3) := by decide +kernel
theorem e58_11 : decode jdk_32_method_15_code 11 = .ok (.goto 4, 3) := by decide +kernel
theorem e60_0 : decode prog_31_method_8_code 0 = .ok (.aload_n 0, 1) := by decide +kernel
theorem e60_1 : decode prog_31_method_8_code 1 = .ok (.getfield 7, 3) := by decide +kernel
theorem e60_4 : decode prog_31_method_8_code 4 = .ok (.areturn, 1) := by decide +kernel
theorem e11_5 : decode jdk_42_method_66_code 5 = .ok (.iconst 1, 1) := by decide +kernel
theorem e11_6 : decode jdk_42_method_66_code 6 = .ok (.ireturn, 1) := by decide +kernel
theorem pd0 : parseMethodDescriptor "([CI[BII)I" = some ⟨[(.array .char), .int, (.array .byte), .int, .int], (some .int)⟩ := by decide +kernel
theorem pd1 : parseMethodDescriptor "([CII)[B" = some ⟨[(.array .char), .int, .int], (some (.array .byte))⟩ := by decide +kernel
theorem pd2 : parseMethodDescriptor "([BI)B" = some ⟨[(.array .byte), .int], (some .byte)⟩ := by decide +kernel
theorem pd3 : parseMethodDescriptor "([CIILjava/lang/Void;)V" = some ⟨[(.array .char), .int, .int, (.object "java/lang/Void")], none⟩ := by decide +kernel
theorem pd4 : parseMethodDescriptor "(I)C" = some ⟨[.int], (some .char)⟩ := by decide +kernel
theorem pd5 : parseMethodDescriptor "([C)V" = some ⟨[(.array .char)], none⟩ := by decide +kernel
theorem pd6 : parseMethodDescriptor "([B[B)Z" = some ⟨[(.array .byte), (.array .byte)], (some .boolean)⟩ := by decide +kernel
theorem pd7 : parseMethodDescriptor "(Ljava/lang/Object;)Z" = some ⟨[(.object "java/lang/Object")], (some .boolean)⟩ := by decide +kernel
theorem pd8 : parseMethodDescriptor "()B" = some ⟨[], (some .byte)⟩ := by decide +kernel
theorem pd9 : parseMethodDescriptor "()I" = some ⟨[], (some .int)⟩ := by decide +kernel
theorem pd10 : parseMethodDescriptor "([BI[BII)I" = some ⟨[(.array .byte), .int, (.array .byte), .int, .int], (some .int)⟩ := by decide +kernel
theorem pd11 : parseMethodDescriptor "(Ljava/lang/String;I)Z" = some ⟨[(.object "java/lang/String"), .int], (some .boolean)⟩ := by decide +kernel
theorem pd12 : parseMethodDescriptor "(Ljava/lang/String;)Z" = some ⟨[(.object "java/lang/String")], (some .boolean)⟩ := by decide +kernel
theorem pd13 : parseMethodDescriptor "(IIILjava/util/function/BiFunction;)I" = some ⟨[.int, .int, .int, (.object "java/util/function/BiFunction")], (some .int)⟩ := by decide +kernel
theorem pd14 : parseMethodDescriptor "(III)V" = some ⟨[.int, .int, .int], none⟩ := by decide +kernel
theorem pd15 : parseMethodDescriptor "(II)Ljava/lang/String;" = some ⟨[.int, .int], (some (.object "java/lang/String"))⟩ := by decide +kernel
theorem pd16 : parseMethodDescriptor "(Ljava/lang/String;)Ljava/lang/String;" = some ⟨[(.object "java/lang/String")], (some (.object "java/lang/String"))⟩ := by decide +kernel
theorem pd17 : parseMethodDescriptor "()Z" = some ⟨[], (some .boolean)⟩ := by decide +kernel
theorem pd18 : parseMethodDescriptor "(IILjava/util/function/BiFunction;)I" = some ⟨[.int, .int, (.object "java/util/function/BiFunction")], (some .int)⟩ := by decide +kernel
theorem pd19 : parseMethodDescriptor "(II)V" = some ⟨[.int, .int], none⟩ := by decide +kernel
theorem pd20 : parseMethodDescriptor "([BI)C" = some ⟨[(.array .byte), .int], (some .char)⟩ := by decide +kernel
theorem pd21 : parseMethodDescriptor "(I)Z" = some ⟨[.int], (some .boolean)⟩ := by decide +kernel
theorem pd22 : parseMethodDescriptor "(II)I" = some ⟨[.int, .int], (some .int)⟩ := by decide +kernel
theorem pd23 : parseMethodDescriptor "([BIII)I" = some ⟨[(.array .byte), .int, .int, .int], (some .int)⟩ := by decide +kernel
theorem pd24 : parseMethodDescriptor "(I)I" = some ⟨[.int], (some .int)⟩ := by decide +kernel
theorem pd25 : parseMethodDescriptor "()V" = some ⟨[], none⟩ := by decide +kernel
theorem pd26 : parseMethodDescriptor "(CIZ)[Ljava/lang/String;" = some ⟨[.char, .int, .boolean], (some (.array (.object "java/lang/String")))⟩ := by decide +kernel
theorem pd27 : parseMethodDescriptor "(Ljava/lang/String;IZ)[Ljava/lang/String;" = some ⟨[(.object "java/lang/String"), .int, .boolean], (some (.array (.object "java/lang/String")))⟩ := by decide +kernel
theorem pd28 : parseMethodDescriptor "(Ljava/lang/String;I)[Ljava/lang/String;" = some ⟨[(.object "java/lang/String"), .int], (some (.array (.object "java/lang/String")))⟩ := by decide +kernel
theorem pd29 : parseMethodDescriptor "(C)Z" = some ⟨[.char], (some .boolean)⟩ := by decide +kernel
theorem pd30 : parseMethodDescriptor "([Ljava/lang/String;)I" = some ⟨[(.array (.object "java/lang/String"))], (some .int)⟩ := by decide +kernel
theorem pd31 : parseMethodDescriptor "(Ljava/lang/Object;)Ljava/lang/Object;" = some ⟨[(.object "java/lang/Object")], (some (.object "java/lang/Object"))⟩ := by decide +kernel
theorem pd32 : parseMethodDescriptor "(Ljava/lang/Object;)V" = some ⟨[(.object "java/lang/Object")], none⟩ := by decide +kernel
theorem pd33 : parseMethodDescriptor "([Ljava/lang/Object;)Ljava/util/List;" = some ⟨[(.array (.object "java/lang/Object"))], (some (.object "java/util/List"))⟩ := by decide +kernel
theorem pd34 : parseMethodDescriptor "(Ljava/lang/String;Ljava/util/List;)V" = some ⟨[(.object "java/lang/String"), (.object "java/util/List")], none⟩ := by decide +kernel
theorem pd35 : parseMethodDescriptor "(Ljava/lang/Object;)Ljava/util/Optional;" = some ⟨[(.object "java/lang/Object")], (some (.object "java/util/Optional"))⟩ := by decide +kernel
theorem pd36 : parseMethodDescriptor "(Ljava/lang/String;)Ljava/util/Optional;" = some ⟨[(.object "java/lang/String")], (some (.object "java/util/Optional"))⟩ := by decide +kernel
theorem pd37 : parseMethodDescriptor "(Ljava/util/function/Supplier;)Ljava/lang/Object;" = some ⟨[(.object "java/util/function/Supplier")], (some (.object "java/lang/Object"))⟩ := by decide +kernel
theorem pd38 : parseMethodDescriptor "(Ljava/lang/String;)Lcom/example/ply3/ply3/Target;" = some ⟨[(.object "java/lang/String")], (some (.object "com/example/ply3/ply3/Target"))⟩ := by decide +kernel
theorem pd39 : parseMethodDescriptor "(Ljava/lang/String;)V" = some ⟨[(.object "java/lang/String")], none⟩ := by decide +kernel
theorem pd40 : parseMethodDescriptor "(I)Ljava/lang/String;" = some ⟨[.int], (some (.object "java/lang/String"))⟩ := by decide +kernel
theorem pd41 : parseMethodDescriptor "()Ljava/util/Optional;" = some ⟨[], (some (.object "java/util/Optional"))⟩ := by decide +kernel
theorem pd42 : parseMethodDescriptor "(Lcom/example/ply3/ply3/Navigator;ZLjava/lang/String;)V" = some ⟨[(.object "com/example/ply3/ply3/Navigator"), .boolean, (.object "java/lang/String")], none⟩ := by decide +kernel
theorem pd43 : parseMethodDescriptor "()Ljava/lang/String;" = some ⟨[], (some (.object "java/lang/String"))⟩ := by decide +kernel
theorem pn0 : plainName "java/lang/StringUTF16" = true := by first | (simp [plainName, overriddenIn]; done) | decide +kernel
theorem pn1 : plainName "java/lang/String" = true := by first | (simp [plainName, overriddenIn]; done) | decide +kernel
theorem pn2 : plainName "com/example/ply3/ply3/NavigatorInternalRedirectPinLaw" = true := by first | (simp [plainName, overriddenIn]; done) | decide +kernel
theorem pn3 : plainName "com/example/ply3/ply3/Navigator" = true := by first | (simp [plainName, overriddenIn]; done) | decide +kernel
theorem pn4 : plainName "com/example/ply3/ply3/Target" = true := by first | (simp [plainName, overriddenIn]; done) | decide +kernel
theorem pn5 : plainName "java/lang/StringLatin1" = true := by first | (simp [plainName, overriddenIn]; done) | decide +kernel
theorem pn6 : plainName "jdk/internal/util/ArraysSupport" = true := by first | (simp [plainName, overriddenIn]; done) | decide +kernel
theorem pn7 : plainName "jdk/internal/util/Preconditions" = true := by first | (simp [plainName, overriddenIn]; done) | decide +kernel
theorem pn8 : plainName "java/util/ArrayList" = true := by first | (simp [plainName, overriddenIn]; done) | decide +kernel
theorem pn9 : plainName "java/util/AbstractList" = true := by first | (simp [plainName, overriddenIn]; done) | decide +kernel
theorem pn10 : plainName "java/util/AbstractCollection" = true := by first | (simp [plainName, overriddenIn]; done) | decide +kernel
theorem pn11 : plainName "java/util/List" = true := by first | (simp [plainName, overriddenIn]; done) | decide +kernel
theorem pn12 : plainName "java/util/ImmutableCollections$List12" = true := by first | (simp [plainName, overriddenIn]; done) | decide +kernel
theorem pn13 : plainName "java/util/ImmutableCollections$AbstractImmutableList" = true := by first | (simp [plainName, overriddenIn]; done) | decide +kernel
theorem pn14 : plainName "java/util/ImmutableCollections$AbstractImmutableCollection" = true := by first | (simp [plainName, overriddenIn]; done) | decide +kernel
theorem pn15 : plainName "java/util/Objects" = true := by first | (simp [plainName, overriddenIn]; done) | decide +kernel
theorem pn16 : plainName "java/util/Optional" = true := by first | (simp [plainName, overriddenIn]; done) | decide +kernel
def GlS (Z : State) (u0 u1 u2 : Nat) : Prop := Sta Z Z.heap "java/util/Optional" "EMPTY" "Ljava/util/Optional;" (.ref u0) ∧ Exa Z Z.heap u0 "java/util/Optional" ∧ Fld Z Z.heap u0 "java/util/Optional" "value" "Ljava/lang/Object;" .null ∧ Sta Z Z.heap "java/util/ArrayList" "DEFAULTCAPACITY_EMPTY_ELEMENTDATA" "[Ljava/lang/Object;" (.ref u1) ∧ Exa Z Z.heap u1 "[Ljava/lang/Object;" ∧ Sta Z Z.heap "java/util/ImmutableCollections" "EMPTY" "Ljava/lang/Object;" (.ref u2) ∧ Exa Z Z.heap u2 "java/lang/Object"
theorem hEW {a0 : Array Value} {Z : State} (hw : Hw a0 Z) : EW Z a0 EL1 := EW.cons (w78 hw) (by decide) (EW.cons (w147 hw) (by decide) (EW.nil))
theorem hSA {a0 : Array Value} {Z : State} (hw : Hw a0 Z) : ∀ w ∈ Bundle.stringAtoms, w.before a0 Z = true := by
  intro w hq
  simp only [Bundle.stringAtoms, List.mem_cons, List.not_mem_nil, or_false] at hq
  rcases hq with rfl | rfl | rfl | rfl | rfl | rfl | rfl
  · exact (w6 hw)
  · exact (w5 hw)
  · exact (w26 hw)
  · exact (w36 hw)
  · exact (w34 hw)
  · exact (w79 hw)
  · exact (w80 hw)
theorem own_i0 {x : Int32} (h : ¬ x < (0 : Int32)) : 0 ≤ x.toInt := by
  simp only [Int32.lt_iff_toInt_lt, Int32.reduceToInt] at h; omega
theorem own_i1 {x : Int32} (h : ¬ (65535 : Int32) < x) : x.toInt ≤ 65535 := by
  simp only [Int32.lt_iff_toInt_lt, Int32.reduceToInt] at h; omega
theorem own_sub {x y d : Int32} (hd : x - y = d) (hx : 0 ≤ x.toInt ∧ x.toInt ≤ 65535) (hy : 0 ≤ y.toInt ∧ y.toInt ≤ 65535) : d.toInt = x.toInt - y.toInt := by
  have h1 := c_isub x y
  have h2 := rng32 (x - y)
  rw [hd] at h1 h2
  omega
theorem own_or32n (n : Nat) : n ||| 32 = if n / 32 % 2 = 1 then n else n + 32 := by
  have q : n = (n / 32) <<< 5 + n % 32 := by rw [Nat.shiftLeft_eq]; omega
  have q2 : n = (n / 32) <<< 5 ||| n % 32 := by rw [← Nat.shiftLeft_add_eq_or_of_lt (by omega : n % 32 < 2 ^ 5)]; exact q
  have q3 : (n / 32) ||| 1 = if n / 32 % 2 = 1 then n / 32 else n / 32 + 1 := by
    generalize n / 32 = k
    have h1 : k = (k / 2) <<< 1 ||| k % 2 := by rw [← Nat.shiftLeft_add_eq_or_of_lt (by omega : k % 2 < 2 ^ 1), Nat.shiftLeft_eq]; omega
    have h2 : k ||| 1 = (k / 2) <<< 1 ||| 1 := by
      conv => lhs; rw [h1]
      rw [Nat.or_assoc]
      have : k % 2 = 0 ∨ k % 2 = 1 := by omega
      rcases this with t | t <;> rw [t] <;> rfl
    rw [h2, ← Nat.shiftLeft_add_eq_or_of_lt (by omega : 1 < 2 ^ 1), Nat.shiftLeft_eq]
    split <;> omega
  have q4 : n ||| 32 = ((n / 32) ||| 1) <<< 5 ||| n % 32 := by
    conv => lhs; rw [q2]
    rw [Nat.or_assoc, Nat.or_comm (n % 32) 32, ← Nat.or_assoc, show (32 : Nat) = 1 <<< 5 from rfl, ← Nat.shiftLeft_or_distrib]
  rw [q4, q3, ← Nat.shiftLeft_add_eq_or_of_lt (by omega : n % 32 < 2 ^ 5), Nat.shiftLeft_eq]
  split <;> omega
theorem own_or32 {x z : Int32} (hz : x ||| 32 = z) (h0 : 0 ≤ x.toInt) (h1 : x.toInt ≤ 65535) : (x.toInt / 32 % 2 = 1 ∧ z.toInt = x.toInt) ∨ (x.toInt / 32 % 2 = 0 ∧ z.toInt = x.toInt + 32) := by
  subst hz
  have hn := Ow.toNat_rng (n := 65535) h0 h1 (by decide)
  have e1 : (x ||| 32).toBitVec.toNat = x.toBitVec.toNat ||| 32 := by simp
  have e2 := Ow.toInt_small (x := x) hn (by decide)
  have e3 := own_or32n x.toBitVec.toNat
  have hle : (x ||| 32).toBitVec.toNat ≤ 131071 := by rw [e1, e3]; split <;> omega
  rw [Ow.toInt_small hle (by decide), e1, e3, e2]
  split <;> omega
def alP (x : Int32) : Prop := (97 ≤ x.toInt ∧ x.toInt ≤ 122) ∨ (65 ≤ x.toInt ∧ x.toInt ≤ 90) ∨ (48 ≤ x.toInt ∧ x.toInt ≤ 57) ∨ x.toInt = 45 ∨ x.toInt = 95
instance (x : Int32) : Decidable (alP x) := by unfold alP; infer_instance
def NmP (cs : List Int32) : Prop := (∃ x, cs = [x] ∧ alP x) ∨ (∃ x y, cs = [x, y] ∧ alP x ∧ alP y)
theorem al0 {x : Int32} (h : alP x) : ¬ x < (0 : Int32) := by unfold alP at h; simp only [Int32.lt_iff_toInt_lt, Int32.reduceToInt]; omega
theorem al255 {x : Int32} (h : alP x) : ¬ (255 : Int32) < x := by unfold alP at h; simp only [Int32.lt_iff_toInt_lt, Int32.reduceToInt]; omega
theorem al16 {x : Int32} (h : alP x) : ¬ (65535 : Int32) < x := by unfold alP at h; simp only [Int32.lt_iff_toInt_lt, Int32.reduceToInt]; omega
theorem chA : ∀ i < 64, Int32.ofNat i < 26 → alP (97 + Int32.ofNat i).toUInt32.toUInt16.toUInt32.toInt32 := by decide +kernel
theorem chB : ∀ i < 64, ¬ Int32.ofNat i < 26 → Int32.ofNat i < 52 → alP (65 + (Int32.ofNat i - 26)).toUInt32.toUInt16.toUInt32.toInt32 := by decide +kernel
theorem chC : ∀ i < 64, ¬ Int32.ofNat i < 52 → Int32.ofNat i < 62 → alP (48 + (Int32.ofNat i - 52)).toUInt32.toUInt16.toUInt32.toInt32 := by decide +kernel
theorem own_al8 {x : Int32} (h : alP x) : x.toInt8.toInt32.toInt = x.toInt := by
  have h1 := Ow.all256 (fun x => decide (alP x → x.toInt8.toInt32.toInt = x.toInt)) (by decide +kernel) (al0 h) (al255 h)
  exact of_decide_eq_true h1 h
theorem and3 (x : Int32) : x &&& 3 = 0 ∨ x &&& 3 = 1 ∨ x &&& 3 = 2 ∨ x &&& 3 = 3 := by
  obtain ⟨k, hk, e⟩ := Ow.andN x (y := 3) (n := 3) (by decide) (by decide)
  rw [e]
  have : k = 0 ∨ k = 1 ∨ k = 2 ∨ k = 3 := by omega
  rcases this with rfl | rfl | rfl | rfl <;> decide

variable {l : Launch} {Z : State} {n0 : Nat} {a0 : Array Value} {cz : Int32} {sf : Value}
set_option maxRecDepth 65536 in
set_option maxHeartbeats 40000000 in
theorem gcC (hw : Hw a0 Z) (G : Ow.Glo Z cz sf) {u0 u1 u2 : Nat} (GS : GlS Z u0 u1 u2) {h0 : Heap} (O0 : Old Z n0 h0) {a d : Nat} {ka kd : ClassId} {cs : List Int32} (A : Arv Z h0 a ka .char (Int32.ofNat cs.length) (Ow.CA cs) (.int 0)) (D : Arv Z h0 d kd .byte (Int32.ofNat cs.length) [] (.int 0)) (hd : n0 ≤ d) (hne : a ≠ d) (hN : cs.length ≤ 64) :
    Ow.Con l Z EL1 n0 my0 jdk_52_method_21_code 7 (Option.some Jvm.ClassFile.FieldType.int) [] ({ frames := 0, cells := 0, slots := 0, locals := 0 } : Room) #[(.ref a), (.int 0), (.ref d), (.int 0), (.int (Int32.ofNat cs.length))] [d] h0 (fun v h S' => (v = some (.int (Int32.ofNat cs.length)) ∧ Keep h0 h [d] ∧ Ow.Lat cs ∧ Arv Z h d kd .byte (Int32.ofNat cs.length) (Ow.LB cs) (.int 0) ∧ S' = []) ∨ (∃ j : Nat, ∃ x : Int32, v = some (.int (Int32.ofNat j)) ∧ Keep h0 h [d] ∧ cs[j]? = some x ∧ (255 : Int32) < x ∧ S' = [])) := by
 refine Ow.Con.enter (Ls := #[.val (.ref a), .val (.int 0), .val (.ref d), .val (.int 0), .val (.int (Int32.ofNat cs.length)), .unset, .unset]) (plainFor_of_name pn0) O0 (hEW hw) (hSA hw) ?_
 intro p e s m below meth c B
 have z0 := Ow.old_le O0
 refine Ow.iconst (pc' := 1) (x := 0) B e0_0 ?_
 refine Ow.istore (pc' := 3) (Ls' := #[.val (.ref a), .val (.int (Int32.ofNat 0)), .val (.ref d), .val (.int (Int32.ofNat 0)), .val (.int (Int32.ofNat cs.length)), .val (.int (Int32.ofNat 0)), .unset]) B e0_1 ?_
 refine Ow.Go.loop (fun i (x : Nat × Slot) h => x.1 + i = cs.length ∧ Keep h0 h [d] ∧ Arv Z h d kd .byte (Int32.ofNat cs.length) ((Ow.LB cs).take x.1) (.int 0) ∧ (∀ y ∈ cs.take x.1, ¬ (255 : Int32) < y) ∧ Ow.UI x.2) (fun x => #[.val (.ref a), .val (.int (Int32.ofNat x.1)), .val (.ref d), .val (.int (Int32.ofNat x.1)), .val (.int (Int32.ofNat cs.length)), .val (.int (Int32.ofNat x.1)), x.2]) ?_ cs.length (0, .unset) ⟨by omega, Keep.refl _ _, D.pad (fun i => by simp), by simp, Or.inl rfl⟩
 intro i ⟨j, u⟩ h ⟨hj, K, D1, hl, hu⟩ ih
 dsimp only at hj D1 hl hu ⊢
 have zK := K.1
 refine Ow.iload (pc' := 5) B e0_3 (Ow.iload (pc' := 7) B e0_5 ?_)
 by_cases c1 : j < cs.length
 ·obtain ⟨x, hx⟩ : ∃ x, cs[j]? = some x := ⟨_, List.getElem?_eq_getElem c1⟩
  refine Ow.icmpF (pc' := 10) B e0_7 (tlt (Ow.nlT c1)).2.1 ?_
  refine Ow.aloadN (pc' := 11) B e0_10 (Ow.iloadN (pc' := 12) B e0_11 ?_)
  refine Ow.caload (pc' := 13) (v := .int x) B e0_12 (A.keep K (Ow.ninS hne Ow.nin0)) ⟨Ow.nn, Ow.nlT c1⟩ (by rw [Ow.nc]; exact Ow.gD (Ow.CAa hx)) ?_
  refine Ow.istore (pc' := 15) (Ls' := #[.val (.ref a), .val (.int (Int32.ofNat j)), .val (.ref d), .val (.int (Int32.ofNat j)), .val (.int (Int32.ofNat cs.length)), .val (.int (Int32.ofNat j)), .val (.int x)]) (hl := by rcases hu with rfl | ⟨y, rfl⟩ <;> rfl) B e0_13 (Ow.iload (pc' := 17) B e0_15 (Ow.sipush (pc' := 20) (x := 255) B e0_17 ?_))
  by_cases c2 : (255 : Int32) < x
  ·refine Ow.icmpF (pc' := 23) B e0_20 (tlt c2).2.2.2 (Ow.iload (pc' := 25) B e0_23 ?_)
   exact Ow.retI (S' := []) (t := .int) B e0_25 (Or.inr ⟨j, x, rfl, K, hx, c2, rfl⟩)
  ·refine Ow.icmpT (pc' := 26) B e0_20 (flt c2).2.2.2 ?_
   refine Ow.aloadN (pc' := 27) B e0_26 (Ow.iloadN (pc' := 28) B e0_27 (Ow.iload (pc' := 30) B e0_28 (Ow.i2b (pc' := 31) (z := x.toInt8.toInt32) B e0_30 ?_)))
   refine Ow.bastore (pc' := 32) (i := j) B e0_31 (D1.pad (Ow.pad1 _ _)) ⟨Ow.nn, Ow.nlT c1⟩ (by simp) ?_ (hlt := by simp; omega) (hi := Ow.nc)
   intro h' K' D2
   rw [Ow.nar_b, Ow.tk (Ow.LBa hx)] at D2
   refine Ow.iinc (pc' := 35) (y := Int32.ofNat (j + 1)) (hy := (Ow.nS j).symm) (Ls' := #[.val (.ref a), .val (.int (Int32.ofNat (j + 1))), .val (.ref d), .val (.int (Int32.ofNat j)), .val (.int (Int32.ofNat cs.length)), .val (.int (Int32.ofNat j)), .val (.int x)]) B e0_32 ?_
   refine Ow.iinc (pc' := 38) (y := Int32.ofNat (j + 1)) (hy := (Ow.nS j).symm) (Ls' := #[.val (.ref a), .val (.int (Int32.ofNat (j + 1))), .val (.ref d), .val (.int (Int32.ofNat (j + 1))), .val (.int (Int32.ofNat cs.length)), .val (.int (Int32.ofNat j)), .val (.int x)]) B e0_35 ?_
   refine Ow.iinc (pc' := 41) (y := Int32.ofNat (j + 1)) (hy := (Ow.nS j).symm) (Ls' := #[.val (.ref a), .val (.int (Int32.ofNat (j + 1))), .val (.ref d), .val (.int (Int32.ofNat (j + 1))), .val (.int (Int32.ofNat cs.length)), .val (.int (Int32.ofNat (j + 1))), .val (.int x)]) B e0_38 ?_
   refine Ow.goto (pc' := 3) B e0_41 ?_
   exact ih (i - 1) (j + 1, .val (.int x)) h' (by omega) ⟨by show j + 1 + (i - 1) = _; omega, K.trans K' (allS (Or.inl (by simp)) all0), D2, Ow.take1 hx hl c2, Or.inr ⟨_, rfl⟩⟩
 ·have e : j = cs.length := by omega
  refine Ow.icmpT (pc' := 44) B e0_7 (flt (Ow.nlF c1)).2.1 (Ow.iload (pc' := 46) B e0_44 ?_)
  rw [e, Ow.takeN (by simp)] at D1
  rw [e, Ow.takeN (Nat.le_refl _)] at hl
  exact Ow.retI (S' := []) (t := .int) B e0_46 (Or.inl ⟨rfl, K, hl, D1, rfl⟩)
set_option maxRecDepth 65536 in
set_option maxHeartbeats 40000000 in
theorem gCC (hw : Hw a0 Z) (G : Ow.Glo Z cz sf) {u0 u1 u2 : Nat} (GS : GlS Z u0 u1 u2) {h0 : Heap} (O0 : Old Z n0 h0) {a : Nat} {ka : ClassId} {cs : List Int32} (A : Arv Z h0 a ka .char (Int32.ofNat cs.length) (Ow.CA cs) (.int 0)) (hR : Ow.Rng cs) (hL : Ow.Lat cs) (hC : cs.length ≤ 2) (hN : cs.length ≤ 64) :
    Ow.Con l Z EL1 n0 my1 jdk_52_method_16_code 6 (Option.some (Jvm.ClassFile.FieldType.array Jvm.ClassFile.FieldType.byte)) [] ({ frames := 1, cells := 1, slots := 2, locals := 18 } : Room) #[(.ref a), (.int 0), (.int (Int32.ofNat cs.length))] [] h0 (fun v h S' => ∃ r : Nat, ∃ kr : ClassId, v = some (.ref r) ∧ Keep h0 h [] ∧ h0.size ≤ r ∧ Ow.Lat cs ∧ Arv Z h r kr .byte (Int32.ofNat cs.length) (Ow.LB cs) (.int 0) ∧ S' = [r]) := by
 refine Ow.Con.enter (Ls := #[.val (.ref a), .val (.int 0), .val (.int (Int32.ofNat cs.length)), .unset, .unset, .unset]) (plainFor_of_name pn0) O0 (hEW hw) (hSA hw) ?_
 intro p e s m below meth c B
 have z0 := Ow.old_le O0
 have lu0 : (u0 : Nat) < n0 := O0.1 ▸ GS.2.1.lt
 have lu1 : (u1 : Nat) < n0 := O0.1 ▸ GS.2.2.2.2.1.lt
 have lu2 : (u2 : Nat) < n0 := O0.1 ▸ GS.2.2.2.2.2.2.lt
 have la : (a : Nat) < h0.size := A.lt
 refine Ow.iloadN (pc' := 1) B e1_0 ?_
 refine Ow.newArr (pc' := 3) (k' := 1) (n' := 2) (cap := 2) B e1_1 (w26 hw) Ow.nn (by rw [Ow.nc]; omega) ?_
 intro h2 a1 ka1 ga1 ba1 Kh2 V0a1
 have zh2 := Kh2.1
 have la1 : (a1 : Nat) < h2.size := V0a1.lt
 refine Ow.astoreN (pc' := 4) (Ls' := #[.val (.ref a), .val (.int 0), .val (.int (Int32.ofNat cs.length)), .val (.ref a1), .unset, .unset]) B e1_3 ?_
 refine Ow.aloadN (pc' := 5) B e1_4 ?_
 refine Ow.iloadN (pc' := 6) B e1_5 ?_
 refine Ow.aloadN (pc' := 7) B e1_6 ?_
 refine Ow.iconst (pc' := 8) (x := 0) B e1_7 ?_
 refine Ow.iloadN (pc' := 9) B e1_8 ?_
 have f3 := A.keep Kh2 Ow.nin0
 refine Ow.Go.old (fun o4 => ?_)
 refine Ow.callStatic (pc' := 12) (W := 0) (k' := 1) (n' := 2) (argsL := [(.ref a), (.int 0), (.ref a1), (.int 0), (.int (Int32.ofNat cs.length))]) (rest := []) B e1_9 (w27 hw) (w28 hw) (w24 hw) (w29 hw) (gcC hw G GS o4 f3 V0a1 (by omega) (by omega) hN) pd0 ?_
 intro vq5 h6 S7 q5 zh6
 rcases q5 with q5 | q5
 ·obtain ⟨rfl, Kh6, l9, f8, rfl⟩ := q5
  refine Ow.Go.nr (S' := [a1]) (st' := [(.int (Int32.ofNat cs.length))]) ?_
  refine Ow.istore (pc' := 14) (Ls' := #[.val (.ref a), .val (.int 0), .val (.int (Int32.ofNat cs.length)), .val (.ref a1), .val (.int (Int32.ofNat cs.length)), .unset]) B e1_12 ?_
  refine Ow.iload (pc' := 16) B e1_14 ?_
  refine Ow.iloadN (pc' := 17) B e1_16 ?_
  refine Ow.icmpT (pc' := 57) B e1_17 (teq (rfl)).1 ?_
  refine Ow.aloadN (pc' := 58) B e1_57 ?_
  exact Ow.retA (S' := [a1]) (t := (.array .byte)) B e1_58 (⟨a1, ka1, rfl, (((Keep.refl _ []).trans Kh2 (fun _ q => nomatch q)).trans Kh6 (allS (Or.inr (by omega)) all0)), (by omega), l9, f8, rfl⟩)
 ·obtain ⟨j10, x11, rfl, Kh6, e12, c13, rfl⟩ := q5
  exact absurd c13 (hL x11 (List.mem_of_getElem? e12))
set_option maxRecDepth 65536 in
set_option maxHeartbeats 40000000 in
theorem gCal0 (hw : Hw a0 Z) (G : Ow.Glo Z cz sf) {u0 u1 u2 : Nat} (GS : GlS Z u0 u1 u2) {h0 : Heap} (O0 : Old Z n0 h0) {t n : Nat} {kt : ClassId} {vs : List Value} (D : Arv Z h0 t kt .byte (Int32.ofNat n) vs (.int 0)) (hN : n ≤ 64) :
    Ow.Con l Z EL1 n0 my2 jdk_52_method_15_code 2 (Option.some Jvm.ClassFile.FieldType.byte) [] ({ frames := 0, cells := 0, slots := 0, locals := 0 } : Room) #[(.ref t), (.int (Int32.ofNat n))] [] h0 (fun v h S' => v = some (.int 0) ∧ h = h0 ∧ S' = []) := by
 refine Ow.Con.enter (Ls := #[.val (.ref t), .val (.int (Int32.ofNat n))]) (plainFor_of_name pn0) O0 (hEW hw) (hSA hw) ?_
 intro p e s m below meth c B
 have z0 := Ow.old_le O0
 have lu0 : (u0 : Nat) < n0 := O0.1 ▸ GS.2.1.lt
 have lu1 : (u1 : Nat) < n0 := O0.1 ▸ GS.2.2.2.2.1.lt
 have lu2 : (u2 : Nat) < n0 := O0.1 ▸ GS.2.2.2.2.2.2.lt
 refine Ow.iloadN (pc' := 1) B e2_0 ?_
 refine Ow.aloadN (pc' := 2) B e2_1 ?_
 refine Ow.arrlen (pc' := 3) B e2_2 D ?_
 refine Ow.isub (pc' := 4) (z := ((Int32.ofNat n) - (Int32.ofNat n))) B e2_3 ?_
 refine Ow.bipush (pc' := 6) (x := 31) B e2_4 ?_
 refine Ow.iushr (pc' := 7) (z := 0) (hz := Ow.cal0) B e2_6 ?_
 refine Ow.i2b (pc' := 8) (z := 0) B e2_7 ?_
 exact Ow.retI (S' := []) (t := .byte) B e2_8 (⟨rfl, rfl, rfl⟩)
set_option maxRecDepth 65536 in
set_option maxHeartbeats 40000000 in
theorem gIni2 (hw : Hw a0 Z) (G : Ow.Glo Z cz sf) {u0 u1 u2 : Nat} (GS : GlS Z u0 u1 u2) {h0 : Heap} (O0 : Old Z n0 h0) {a b : Nat} {ka : ClassId} {cs : List Int32} (A : Arv Z h0 a ka .char (Int32.ofNat cs.length) (Ow.CA cs) (.int 0)) (E : Exa Z h0 b "java/lang/String") (V : Fld Z h0 b "java/lang/String" "value" "[B" .null) (C : Fld Z h0 b "java/lang/String" "coder" "B" (.int 0)) (hb : n0 ≤ b) (hne : a ≠ b) (hR : Ow.Rng cs) (hL : Ow.Lat cs) (hC : cs.length ≤ 2) (hN : cs.length ≤ 64) (hpos : 0 < cs.length) :
    Ow.Con l Z EL1 n0 my3 jdk_42_method_149_code 6 (Option.none : Option Jvm.ClassFile.FieldType) [] ({ frames := 2, cells := 1, slots := 2, locals := 35 } : Room) #[(.ref b), (.ref a), (.int 0), (.int (Int32.ofNat cs.length)), .null] [b] h0 (fun v h S' => ∃ t : Nat, ∃ kt : ClassId, v = none ∧ Keep h0 h [b] ∧ h0.size ≤ t ∧ Ow.Chs Z h b t kt cs ∧ S' = []) := by
 refine Ow.Con.enter (Ls := #[.val (.ref b), .val (.ref a), .val (.int 0), .val (.int (Int32.ofNat cs.length)), .val .null, .unset]) (plainFor_of_name pn1) O0 (hEW hw) (hSA hw) ?_
 intro p e s m below meth c B
 have z0 := Ow.old_le O0
 have lu0 : (u0 : Nat) < n0 := O0.1 ▸ GS.2.1.lt
 have lu1 : (u1 : Nat) < n0 := O0.1 ▸ GS.2.2.2.2.1.lt
 have lu2 : (u2 : Nat) < n0 := O0.1 ▸ GS.2.2.2.2.2.2.lt
 have la : (a : Nat) < h0.size := A.lt
 have lb : (b : Nat) < h0.size := E.lt
 refine Ow.aloadN (pc' := 1) B e3_0 ?_
 refine Ow.objInit (pc' := 4) (W := 0) B e3_1 (w18 hw) (w19 hw) (w20 hw) ?_
 refine Ow.iloadN (pc' := 5) B e3_4 ?_
 by_cases c5 : (Int32.ofNat cs.length) = (0 : Int32)
 ·exact absurd (Ow.nz c5 (by omega)) (by omega)
 ·refine Ow.ifT (pc' := 27) B e3_5 (feq c5).2 ?_
  refine Ow.getstatic (pc' := 30) B e3_27 (w21 hw) Via.refl G.1 ?_
  refine Ow.ifF (pc' := 33) B e3_30 (feq (G.2.1)).1 ?_
  refine Ow.aloadN (pc' := 34) B e3_33 ?_
  refine Ow.iloadN (pc' := 35) B e3_34 ?_
  refine Ow.iloadN (pc' := 36) B e3_35 ?_
  refine Ow.Go.old (fun o1 => ?_)
  refine Ow.callStatic (pc' := 39) (W := 0) (k' := 1) (n' := 2) (argsL := [(.ref a), (.int 0), (.int (Int32.ofNat cs.length))]) (rest := []) B e3_36 (w22 hw) (w23 hw) (w24 hw) (w25 hw) (gCC hw G GS o1 A hR hL hC hN) pd1 ?_
  intro vq2 h3 S4 q2 zh3
  obtain ⟨r5, k6, rfl, Kh3, br5, l8, f7, rfl⟩ := q2
  have lr5 : (r5 : Nat) < h3.size := f7.lt
  refine Ow.Go.norm (S' := [r5, b]) (st' := [(.ref r5)]) (fun _ q => q) rfl ?_
  refine Ow.astore (pc' := 41) (Ls' := #[.val (.ref b), .val (.ref a), .val (.int 0), .val (.int (Int32.ofNat cs.length)), .val .null, .val (.ref r5)]) B e3_39 ?_
  refine Ow.aloadN (pc' := 42) B e3_41 ?_
  refine Ow.aload (pc' := 44) B e3_42 ?_
  refine Ow.iloadN (pc' := 45) B e3_44 ?_
  refine Ow.Go.old (fun o9 => ?_)
  refine Ow.callStatic (pc' := 48) (W := 1) (k' := 1) (n' := 2) (argsL := [(.ref r5), (.int (Int32.ofNat cs.length))]) (rest := [(.ref b)]) B e3_45 (w30 hw) (w31 hw) (w24 hw) (w32 hw) (gCal0 hw G GS (n := cs.length) o9 f7 (by omega)) pd2 ?_
  intro vq10 h11 S12 q10 zh11
  obtain ⟨rfl, rfl, rfl⟩ := q10
  refine Ow.Go.nr (S' := [r5, b]) (st' := [(.int 0), (.ref b)]) ?_
  have f13 := C.keep Kh3 Ow.nin0
  have f14 := E.keep Kh3
  refine Ow.putfield (pc' := 51) (ty := .byte) B e3_48 (w33 hw) Via.refl f13 f14 (Or.inr ⟨(w34 hw), rfl, rfl⟩) (w5 hw) (Or.inl (by simp)) ?_
  intro h15 Wh15
  have f16 := V.keep Kh3 Ow.nin0
  have Kh15 := Keep.of_wr Wh15
  have zh15 := Kh15.1
  have f17 : Fld Z h15 b "java/lang/String" "coder" "B" (.int 0) := f13.same Wh15
  have f18 : Fld Z h15 b "java/lang/String" "value" "[B" .null := f16.other Wh15 (Or.inr (slot_ne (a0 := a0) (C := "java/lang/String") (t := (.array .byte)) (t' := .byte) (Or.inr (w36 hw)) (Or.inr (w34 hw)) (by decide) (by decide) (by decide)))
  refine Ow.aloadN (pc' := 52) B e3_51 ?_
  refine Ow.aload (pc' := 54) B e3_52 ?_
  have f19 := f14.keep Kh15
  refine Ow.putfield (pc' := 57) (ty := (.array .byte)) B e3_54 (w35 hw) Via.refl f18 f19 (Or.inr ⟨(w36 hw), rfl, rfl⟩) (w5 hw) (Or.inl (by simp)) ?_
  intro h20 Wh20
  have Kh20 := Keep.of_wr Wh20
  have zh20 := Kh20.1
  have f21 : Fld Z h20 b "java/lang/String" "value" "[B" (.ref r5) := f18.same Wh20
  have f22 : Fld Z h20 b "java/lang/String" "coder" "B" (.int 0) := f17.other Wh20 (Or.inr (slot_ne (a0 := a0) (C := "java/lang/String") (t := .byte) (t' := (.array .byte)) (Or.inr (w34 hw)) (Or.inr (w36 hw)) (by decide) (by decide) (by decide)))
  have f23 := f19.keep Kh20
  have f24 := f7.keep Kh15 (Ow.ninS (by omega) Ow.nin0)
  have f25 := f24.keep Kh20 (Ow.ninS (by omega) Ow.nin0)
  exact Ow.retV (S' := []) B e3_57 (⟨r5, k6, rfl, ((((Keep.refl _ [b]).trans Kh3 (fun _ q => nomatch q)).trans Kh15 (allS (Or.inl (by simp)) all0)).trans Kh20 (allS (Or.inl (by simp)) all0)), (by omega), ⟨f23, f21, hR, Or.inl ⟨f22, f25, l8⟩⟩, rfl⟩)
set_option maxRecDepth 65536 in
set_option maxHeartbeats 40000000 in
theorem gIni (hw : Hw a0 Z) (G : Ow.Glo Z cz sf) {u0 u1 u2 : Nat} (GS : GlS Z u0 u1 u2) {h0 : Heap} (O0 : Old Z n0 h0) {a b : Nat} {ka : ClassId} {cs : List Int32} (A : Arv Z h0 a ka .char (Int32.ofNat cs.length) (Ow.CA cs) (.int 0)) (E : Exa Z h0 b "java/lang/String") (V : Fld Z h0 b "java/lang/String" "value" "[B" .null) (C : Fld Z h0 b "java/lang/String" "coder" "B" (.int 0)) (hb : n0 ≤ b) (hne : a ≠ b) (hR : Ow.Rng cs) (hL : Ow.Lat cs) (hC : cs.length ≤ 2) (hN : cs.length ≤ 64) (hpos : 0 < cs.length) :
    Ow.Con l Z EL1 n0 my4 jdk_42_method_3_code 2 (Option.none : Option Jvm.ClassFile.FieldType) [] ({ frames := 3, cells := 1, slots := 2, locals := 52 } : Room) #[(.ref b), (.ref a)] [b] h0 (fun v h S' => ∃ t : Nat, ∃ kt : ClassId, v = none ∧ Keep h0 h [b] ∧ h0.size ≤ t ∧ Ow.Chs Z h b t kt cs ∧ S' = []) := by
 refine Ow.Con.enter (Ls := #[.val (.ref b), .val (.ref a)]) (plainFor_of_name pn1) O0 (hEW hw) (hSA hw) ?_
 intro p e s m below meth c B
 have z0 := Ow.old_le O0
 have lu0 : (u0 : Nat) < n0 := O0.1 ▸ GS.2.1.lt
 have lu1 : (u1 : Nat) < n0 := O0.1 ▸ GS.2.2.2.2.1.lt
 have lu2 : (u2 : Nat) < n0 := O0.1 ▸ GS.2.2.2.2.2.2.lt
 have la : (a : Nat) < h0.size := A.lt
 have lb : (b : Nat) < h0.size := E.lt
 refine Ow.aloadN (pc' := 1) B e4_0 ?_
 refine Ow.aloadN (pc' := 2) B e4_1 ?_
 refine Ow.iconst (pc' := 3) (x := 0) B e4_2 ?_
 refine Ow.aloadN (pc' := 4) B e4_3 ?_
 refine Ow.arrlen (pc' := 5) B e4_4 A ?_
 refine Ow.aconstNull (pc' := 6) B e4_5 ?_
 refine Ow.Go.old (fun o1 => ?_)
 refine Ow.callInit (pc' := 9) (W := 0) (k' := 1) (n' := 2) (argsL := [(.ref a), (.int 0), (.int (Int32.ofNat cs.length)), .null]) (rest := []) B e4_6 (w14 hw) (w15 hw) (w6 hw) (w17 hw) (gIni2 hw G GS o1 A E V C (by omega) (by omega) hR hL hC hN hpos) pd3 ?_
 intro vq2 h3 S4 q2 zh3
 obtain ⟨t5, k6, rfl, Kh3, bt5, f7, rfl⟩ := q2
 refine Ow.Go.nr (S' := [b]) (st' := []) ?_
 exact Ow.retV (S' := []) B e4_9 (⟨t5, k6, rfl, ((Keep.refl _ [b]).trans Kh3 (allS (Or.inl (by simp)) all0)), (by omega), f7, rfl⟩)
set_option maxRecDepth 65536 in
set_option maxHeartbeats 40000000 in
theorem gCh (hw : Hw a0 Z) (G : Ow.Glo Z cz sf) {u0 u1 u2 : Nat} (GS : GlS Z u0 u1 u2) {h0 : Heap} (O0 : Old Z n0 h0) {x : Int32} :
    Ow.Con l Z EL1 n0 my5 method_4_code 2 (Option.some Jvm.ClassFile.FieldType.char) [] ({ frames := 0, cells := 0, slots := 0, locals := 0 } : Room) #[(.int x)] [] h0 (fun v h S' => ∃ y : Int32, v = some (.int y) ∧ h = h0 ∧ alP y ∧ S' = []) := by
 refine Ow.Con.enter (Ls := #[.val (.int x), .unset]) (plainFor_of_name pn2) O0 (hEW hw) (hSA hw) ?_
 intro p e s m below meth c B
 have z0 := Ow.old_le O0
 have lu0 : (u0 : Nat) < n0 := O0.1 ▸ GS.2.1.lt
 have lu1 : (u1 : Nat) < n0 := O0.1 ▸ GS.2.2.2.2.1.lt
 have lu2 : (u2 : Nat) < n0 := O0.1 ▸ GS.2.2.2.2.2.2.lt
 refine Ow.iloadN (pc' := 1) B e5_0 ?_
 refine Ow.bipush (pc' := 3) (x := 63) B e5_1 ?_
 obtain ⟨i, hi, ei⟩ := Ow.andN x (y := 63) (n := 63) (by decide) (by decide)
 refine Ow.iand (pc' := 4) (z := (Int32.ofNat i)) (hz := ei) B e5_3 ?_
 refine Ow.istoreN (pc' := 5) (Ls' := #[.val (.int x), .val (.int (Int32.ofNat i))]) B e5_4 ?_
 refine Ow.iloadN (pc' := 6) B e5_5 ?_
 refine Ow.bipush (pc' := 8) (x := 26) B e5_6 ?_
 by_cases c8 : (Int32.ofNat i) < (26 : Int32)
 ·refine Ow.icmpF (pc' := 11) B e5_8 (tlt c8).2.1 ?_
  refine Ow.bipush (pc' := 13) (x := 97) B e5_11 ?_
  refine Ow.iloadN (pc' := 14) B e5_13 ?_
  refine Ow.iadd (pc' := 15) (z := ((97 : Int32) + (Int32.ofNat i))) B e5_14 ?_
  obtain ⟨c1, hc1⟩ : ∃ z : Int32, ((97 : Int32) + (Int32.ofNat i)).toUInt32.toUInt16.toUInt32.toInt32 = z := ⟨_, rfl⟩
  refine Ow.i2c (pc' := 16) (z := c1) (hz := hc1) B e5_15 ?_
  exact Ow.retI (S' := []) (t := .char) (hnn := (Ow.cnarrow (Ow.cnar hc1))) B e5_16 (⟨c1, rfl, rfl, hc1 ▸ chA i (by omega) c8, rfl⟩)
 ·refine Ow.icmpT (pc' := 17) B e5_8 (flt c8).2.1 ?_
  refine Ow.iloadN (pc' := 18) B e5_17 ?_
  refine Ow.bipush (pc' := 20) (x := 52) B e5_18 ?_
  by_cases c20 : (Int32.ofNat i) < (52 : Int32)
  ·refine Ow.icmpF (pc' := 23) B e5_20 (tlt c20).2.1 ?_
   refine Ow.bipush (pc' := 25) (x := 65) B e5_23 ?_
   refine Ow.iloadN (pc' := 26) B e5_25 ?_
   refine Ow.bipush (pc' := 28) (x := 26) B e5_26 ?_
   refine Ow.isub (pc' := 29) (z := ((Int32.ofNat i) - (26 : Int32))) B e5_28 ?_
   refine Ow.iadd (pc' := 30) (z := ((65 : Int32) + ((Int32.ofNat i) - (26 : Int32)))) B e5_29 ?_
   obtain ⟨c2, hc2⟩ : ∃ z : Int32, ((65 : Int32) + ((Int32.ofNat i) - (26 : Int32))).toUInt32.toUInt16.toUInt32.toInt32 = z := ⟨_, rfl⟩
   refine Ow.i2c (pc' := 31) (z := c2) (hz := hc2) B e5_30 ?_
   exact Ow.retI (S' := []) (t := .char) (hnn := (Ow.cnarrow (Ow.cnar hc2))) B e5_31 (⟨c2, rfl, rfl, hc2 ▸ chB i (by omega) c8 c20, rfl⟩)
  ·refine Ow.icmpT (pc' := 32) B e5_20 (flt c20).2.1 ?_
   refine Ow.iloadN (pc' := 33) B e5_32 ?_
   refine Ow.bipush (pc' := 35) (x := 62) B e5_33 ?_
   by_cases c35 : (Int32.ofNat i) < (62 : Int32)
   ·refine Ow.icmpF (pc' := 38) B e5_35 (tlt c35).2.1 ?_
    refine Ow.bipush (pc' := 40) (x := 48) B e5_38 ?_
    refine Ow.iloadN (pc' := 41) B e5_40 ?_
    refine Ow.bipush (pc' := 43) (x := 52) B e5_41 ?_
    refine Ow.isub (pc' := 44) (z := ((Int32.ofNat i) - (52 : Int32))) B e5_43 ?_
    refine Ow.iadd (pc' := 45) (z := ((48 : Int32) + ((Int32.ofNat i) - (52 : Int32)))) B e5_44 ?_
    obtain ⟨c3, hc3⟩ : ∃ z : Int32, ((48 : Int32) + ((Int32.ofNat i) - (52 : Int32))).toUInt32.toUInt16.toUInt32.toInt32 = z := ⟨_, rfl⟩
    refine Ow.i2c (pc' := 46) (z := c3) (hz := hc3) B e5_45 ?_
    exact Ow.retI (S' := []) (t := .char) (hnn := (Ow.cnarrow (Ow.cnar hc3))) B e5_46 (⟨c3, rfl, rfl, hc3 ▸ chC i (by omega) c20 c35, rfl⟩)
   ·refine Ow.icmpT (pc' := 47) B e5_35 (flt c35).2.1 ?_
    refine Ow.iloadN (pc' := 48) B e5_47 ?_
    refine Ow.bipush (pc' := 50) (x := 62) B e5_48 ?_
    by_cases c50 : (Int32.ofNat i) = (62 : Int32)
    ·refine Ow.icmpF (pc' := 53) B e5_50 (teq c50).2 ?_
     refine Ow.bipush (pc' := 55) (x := 45) B e5_53 ?_
     exact Ow.retI (S' := []) (t := .char) B e5_55 (⟨(45 : Int32), rfl, rfl, by decide, rfl⟩)
    ·refine Ow.icmpT (pc' := 56) B e5_50 (feq c50).2 ?_
     refine Ow.bipush (pc' := 58) (x := 95) B e5_56 ?_
     exact Ow.retI (S' := []) (t := .char) B e5_58 (⟨(95 : Int32), rfl, rfl, by decide, rfl⟩)
set_option maxRecDepth 65536 in
set_option maxHeartbeats 40000000 in
theorem gName (hw : Hw a0 Z) (G : Ow.Glo Z cz sf) {u0 u1 u2 : Nat} (GS : GlS Z u0 u1 u2) {h0 : Heap} (O0 : Old Z n0 h0) {x : Int32} :
    Ow.Con l Z EL1 n0 my6 method_5_code 1 (Option.some (Jvm.ClassFile.FieldType.object "java/lang/String")) [] ({ frames := 4, cells := 3, slots := 8, locals := 66 } : Room) #[(.int x)] [] h0 (fun v h S' => ∃ r : Nat, ∃ t : Nat, ∃ kt : ClassId, ∃ cs : List Int32, v = some (.ref r) ∧ Keep h0 h [] ∧ h0.size ≤ r ∧ Ow.Chs Z h r t kt cs ∧ NmP cs ∧ S' = [r]) := by
 refine Ow.Con.enter (Ls := #[.val (.int x)]) (plainFor_of_name pn2) O0 (hEW hw) (hSA hw) ?_
 intro p e s m below meth c B
 have z0 := Ow.old_le O0
 have lu0 : (u0 : Nat) < n0 := O0.1 ▸ GS.2.1.lt
 have lu1 : (u1 : Nat) < n0 := O0.1 ▸ GS.2.2.2.2.1.lt
 have lu2 : (u2 : Nat) < n0 := O0.1 ▸ GS.2.2.2.2.2.2.lt
 refine Ow.iloadN (pc' := 1) B e6_0 ?_
 refine Ow.sipush (pc' := 4) (x := 4096) B e6_1 ?_
 refine Ow.iand (pc' := 5) (z := (x &&& (4096 : Int32))) B e6_4 ?_
 by_cases c5 : (x &&& (4096 : Int32)) = (0 : Int32)
 ·refine Ow.ifF (pc' := 8) B e6_5 (teq c5).2 ?_
  refine Ow.newObj (pc' := 11) (k' := 1) (n' := 4) B e6_8 (w4 hw) (w5 hw) (w6 hw) ?_
  intro h2 a1 ga1 ba1 Kh2 Aa1 Da1
  have zh2 := Kh2.1
  have la1 : (a1 : Nat) < h2.size := Aa1.lt
  have f3 : Fld Z h2 a1 "java/lang/String" "coder" "B" (.int 0) := Da1 (Or.inr (w34 hw)) (ty := .byte) (by decide)
  have f4 : Fld Z h2 a1 "java/lang/String" "value" "[B" .null := Da1 (Or.inr (w36 hw)) (ty := (.array .byte)) (by decide)
  refine Ow.dup (pc' := 12) B e6_11 ?_
  refine Ow.iconst (pc' := 13) (x := 1) B e6_12 ?_
  refine Ow.newArr (pc' := 15) (k' := 2) (n' := 5) (cap := 1) B e6_13 (w7 hw) (by decide) (by decide) ?_
  intro h6 a5 ka5 ga5 ba5 Kh6 V0a5
  have zh6 := Kh6.1
  have la5 : (a5 : Nat) < h6.size := V0a5.lt
  have Va5 : Arv Z h6 a5 ka5 .char (1 : Int32) [(.int 0)] (.int 0) := V0a5.pad (pad_rep [] (.int 0) 1)
  refine Ow.dup (pc' := 16) B e6_15 ?_
  refine Ow.iconst (pc' := 17) (x := 0) B e6_16 ?_
  refine Ow.iloadN (pc' := 18) B e6_17 ?_
  refine Ow.Go.old (fun o7 => ?_)
  refine Ow.callStatic (pc' := 21) (W := 5) (k' := 2) (n' := 5) (argsL := [(.int x)]) (rest := [(.int 0), (.ref a5), (.ref a5), (.ref a1), (.ref a1)]) B e6_18 (w8 hw) (w9 hw) (w2 hw) (w10 hw) (gCh hw G GS (x := x) o7) pd4 ?_
  intro vq8 h9 S10 q8 zh9
  obtain ⟨y11, rfl, rfl, hy11, rfl⟩ := q8
  refine Ow.Go.nr (S' := [a5, a1]) (st' := [(.int y11), (.int 0), (.ref a5), (.ref a5), (.ref a1), (.ref a1)]) ?_
  refine Ow.castore (pc' := 22) (i := 0) B e6_21 Va5 ⟨by decide, by decide⟩ ?_
  intro h12 Kh12 V0h12
  have zh12 := Kh12.1
  have V13 : Arv Z h12 a5 ka5 .char (1 : Int32) [(.int y11)] (.int 0) := (by have e0 := V0h12; rw [show nar .char y11 = y11 from (Ow.nar_id (al0 hy11) (al255 hy11))] at e0; exact e0)
  have f14 := Aa1.keep Kh6
  have f15 := f14.keep Kh12
  have f16 := f4.keep Kh6 Ow.nin0
  have f17 := f16.keep Kh12 (Ow.ninS (by omega) Ow.nin0)
  have f18 := f3.keep Kh6 Ow.nin0
  have f19 := f18.keep Kh12 (Ow.ninS (by omega) Ow.nin0)
  refine Ow.Go.old (fun o20 => ?_)
  refine Ow.callInit (pc' := 25) (W := 1) (k' := 3) (n' := 7) (argsL := [(.ref a5)]) (rest := [(.ref a1)]) B e6_22 (w11 hw) (w12 hw) (w6 hw) (w13 hw) (gIni hw G GS (cs := [y11]) o20 V13 f15 f17 f19 (by omega) (by omega) (Ow.allI ⟨(al0 hy11), (al16 hy11)⟩ Ow.allI0) (Ow.allI (al255 hy11) Ow.allI0) (by simp) (by simp) (by simp)) pd5 ?_
  intro vq21 h22 S23 q21 zh22
  obtain ⟨t24, k25, rfl, Kh22, bt24, f26, rfl⟩ := q21
  have lt24 : (t24 : Nat) < h22.size := f26.ltt
  refine Ow.Go.nr (S' := [a5, a1]) (st' := [(.ref a1)]) ?_
  exact Ow.retA (S' := [a1]) (t := (.object "java/lang/String")) B e6_25 (⟨a1, t24, k25, [y11], rfl, (((((Keep.refl _ []).trans Kh2 (fun _ q => nomatch q)).trans Kh6 (fun _ q => nomatch q)).trans Kh12 (allS (Or.inr (by omega)) all0)).trans Kh22 (allS (Or.inr (by omega)) all0)), (by omega), f26, Or.inl ⟨y11, rfl, hy11⟩, rfl⟩)
 ·refine Ow.ifT (pc' := 26) B e6_5 (feq c5).2 ?_
  refine Ow.newObj (pc' := 29) (k' := 1) (n' := 4) B e6_26 (w4 hw) (w5 hw) (w6 hw) ?_
  intro h28 a27 ga27 ba27 Kh28 Aa27 Da27
  have zh28 := Kh28.1
  have la27 : (a27 : Nat) < h28.size := Aa27.lt
  have f29 : Fld Z h28 a27 "java/lang/String" "coder" "B" (.int 0) := Da27 (Or.inr (w34 hw)) (ty := .byte) (by decide)
  have f30 : Fld Z h28 a27 "java/lang/String" "value" "[B" .null := Da27 (Or.inr (w36 hw)) (ty := (.array .byte)) (by decide)
  refine Ow.dup (pc' := 30) B e6_29 ?_
  refine Ow.iconst (pc' := 31) (x := 2) B e6_30 ?_
  refine Ow.newArr (pc' := 33) (k' := 2) (n' := 6) (cap := 2) B e6_31 (w7 hw) (by decide) (by decide) ?_
  intro h32 a31 ka31 ga31 ba31 Kh32 V0a31
  have zh32 := Kh32.1
  have la31 : (a31 : Nat) < h32.size := V0a31.lt
  have Va31 : Arv Z h32 a31 ka31 .char (2 : Int32) [(.int 0), (.int 0)] (.int 0) := V0a31.pad (pad_rep [] (.int 0) 2)
  refine Ow.dup (pc' := 34) B e6_33 ?_
  refine Ow.iconst (pc' := 35) (x := 0) B e6_34 ?_
  refine Ow.iloadN (pc' := 36) B e6_35 ?_
  refine Ow.Go.old (fun o33 => ?_)
  refine Ow.callStatic (pc' := 39) (W := 5) (k' := 2) (n' := 6) (argsL := [(.int x)]) (rest := [(.int 0), (.ref a31), (.ref a31), (.ref a27), (.ref a27)]) B e6_36 (w8 hw) (w9 hw) (w2 hw) (w10 hw) (gCh hw G GS (x := x) o33) pd4 ?_
  intro vq34 h35 S36 q34 zh35
  obtain ⟨y37, rfl, rfl, hy37, rfl⟩ := q34
  refine Ow.Go.nr (S' := [a31, a27]) (st' := [(.int y37), (.int 0), (.ref a31), (.ref a31), (.ref a27), (.ref a27)]) ?_
  refine Ow.castore (pc' := 40) (i := 0) B e6_39 Va31 ⟨by decide, by decide⟩ ?_
  intro h38 Kh38 V0h38
  have zh38 := Kh38.1
  have V39 : Arv Z h38 a31 ka31 .char (2 : Int32) [(.int y37), (.int 0)] (.int 0) := (by have e0 := V0h38; rw [show nar .char y37 = y37 from (Ow.nar_id (al0 hy37) (al255 hy37))] at e0; exact e0)
  refine Ow.dup (pc' := 41) B e6_40 ?_
  refine Ow.iconst (pc' := 42) (x := 1) B e6_41 ?_
  refine Ow.iloadN (pc' := 43) B e6_42 ?_
  refine Ow.bipush (pc' := 45) (x := 6) B e6_43 ?_
  refine Ow.iushr (pc' := 46) (z := (Jvm.Free.XT.ushr x (6 : Int32))) B e6_45 ?_
  refine Ow.Go.old (fun o40 => ?_)
  refine Ow.callStatic (pc' := 49) (W := 5) (k' := 2) (n' := 6) (argsL := [(.int (Jvm.Free.XT.ushr x (6 : Int32)))]) (rest := [(.int 1), (.ref a31), (.ref a31), (.ref a27), (.ref a27)]) B e6_46 (w8 hw) (w9 hw) (w2 hw) (w10 hw) (gCh hw G GS (x := (Jvm.Free.XT.ushr x (6 : Int32))) o40) pd4 ?_
  intro vq41 h42 S43 q41 zh42
  obtain ⟨y44, rfl, rfl, hy44, rfl⟩ := q41
  refine Ow.Go.nr (S' := [a31, a27]) (st' := [(.int y44), (.int 1), (.ref a31), (.ref a31), (.ref a27), (.ref a27)]) ?_
  refine Ow.castore (pc' := 50) (i := 1) B e6_49 V39 ⟨by decide, by decide⟩ ?_
  intro h45 Kh45 V0h45
  have zh45 := Kh45.1
  have V46 : Arv Z h45 a31 ka31 .char (2 : Int32) [(.int y37), (.int y44)] (.int 0) := (by have e0 := V0h45; rw [show nar .char y44 = y44 from (Ow.nar_id (al0 hy44) (al255 hy44))] at e0; exact e0)
  have f47 := Aa27.keep Kh32
  have f48 := f47.keep Kh38
  have f49 := f48.keep Kh45
  have f50 := f30.keep Kh32 Ow.nin0
  have f51 := f50.keep Kh38 (Ow.ninS (by omega) Ow.nin0)
  have f52 := f51.keep Kh45 (Ow.ninS (by omega) Ow.nin0)
  have f53 := f29.keep Kh32 Ow.nin0
  have f54 := f53.keep Kh38 (Ow.ninS (by omega) Ow.nin0)
  have f55 := f54.keep Kh45 (Ow.ninS (by omega) Ow.nin0)
  refine Ow.Go.old (fun o56 => ?_)
  refine Ow.callInit (pc' := 53) (W := 1) (k' := 3) (n' := 8) (argsL := [(.ref a31)]) (rest := [(.ref a27)]) B e6_50 (w11 hw) (w12 hw) (w6 hw) (w13 hw) (gIni hw G GS (cs := [y37, y44]) o56 V46 f49 f52 f55 (by omega) (by omega) (Ow.allI ⟨(al0 hy37), (al16 hy37)⟩ (Ow.allI ⟨(al0 hy44), (al16 hy44)⟩ Ow.allI0)) (Ow.allI (al255 hy37) (Ow.allI (al255 hy44) Ow.allI0)) (by simp) (by simp) (by simp)) pd5 ?_
  intro vq57 h58 S59 q57 zh58
  obtain ⟨t60, k61, rfl, Kh58, bt60, f62, rfl⟩ := q57
  have lt60 : (t60 : Nat) < h58.size := f62.ltt
  refine Ow.Go.nr (S' := [a31, a27]) (st' := [(.ref a27)]) ?_
  exact Ow.retA (S' := [a27]) (t := (.object "java/lang/String")) B e6_53 (⟨a27, t60, k61, [y37, y44], rfl, ((((((Keep.refl _ []).trans Kh28 (fun _ q => nomatch q)).trans Kh32 (fun _ q => nomatch q)).trans Kh38 (allS (Or.inr (by omega)) all0)).trans Kh45 (allS (Or.inr (by omega)) all0)).trans Kh58 (allS (Or.inr (by omega)) all0)), (by omega), f62, Or.inr ⟨y37, y44, rfl, hy37, hy44⟩, rfl⟩)
set_option maxRecDepth 65536 in
set_option maxHeartbeats 40000000 in
theorem con_equals_1 (hw : Hw a0 Z) (G : Ow.Glo Z cz sf) {u0 u1 u2 : Nat} (GS : GlS Z u0 u1 u2) {pa0 : Nat} {pa1 : Nat} {px0 : Int32} {pk0 : ClassId} {pk1 : ClassId} {h0 : Heap} (O0 : Old Z n0 h0) (hf0 : Arv Z h0 pa0 pk0 .byte (1 : Int32) [(.int px0.toInt8.toInt32)] (.int 0)) (hf1 : Arv Z h0 pa1 pk1 .byte (1 : Int32) [(.int 47)] (.int 0)) (hk0 : alP px0) :
    Ow.Con l Z EL1 n0 my7 jdk_43_method_13_code 3 (Option.some Jvm.ClassFile.FieldType.boolean) [] ({ frames := 0, cells := 0, slots := 0, locals := 0 } : Room) #[(.ref pa0), (.ref pa1)] [] h0 (fun v h S' => (v = some (.int 0) ∧ h = h0 ∧ S' = [])) := by
 refine Ow.Con.enter (Ls := #[.val (.ref pa0), .val (.ref pa1), .unset]) (plainFor_of_name pn5) O0 (hEW hw) (hSA hw) ?_
 intro p e s m below meth c B
 have z0 := Ow.old_le O0
 have lu0 : (u0 : Nat) < n0 := O0.1 ▸ GS.2.1.lt
 have lu1 : (u1 : Nat) < n0 := O0.1 ▸ GS.2.2.2.2.1.lt
 have lu2 : (u2 : Nat) < n0 := O0.1 ▸ GS.2.2.2.2.2.2.lt
 have lpa0 : (pa0 : Nat) < h0.size := hf0.lt
 have lpa1 : (pa1 : Nat) < h0.size := hf1.lt
 have i0 := hk0
 have e0 := own_al8 i0
 unfold alP at i0
 refine Ow.aloadN (pc' := 1) B e12_0 ?_
 refine Ow.arrlen (pc' := 2) B e12_1 hf0 ?_
 refine Ow.aloadN (pc' := 3) B e12_2 ?_
 refine Ow.arrlen (pc' := 4) B e12_3 hf1 ?_
 refine Ow.icmpF (pc' := 7) B e12_4 (by decide) ?_
 refine Ow.iconst (pc' := 8) (x := 0) B e12_7 ?_
 refine Ow.istoreN (pc' := 9) (Ls' := #[.val (.ref pa0), .val (.ref pa1), .val (.int 0)]) B e12_8 ?_
 refine Ow.iloadN (pc' := 10) B e12_9 ?_
 refine Ow.aloadN (pc' := 11) B e12_10 ?_
 refine Ow.arrlen (pc' := 12) B e12_11 hf0 ?_
 refine Ow.icmpF (pc' := 15) B e12_12 (by decide) ?_
 refine Ow.aloadN (pc' := 16) B e12_15 ?_
 refine Ow.iloadN (pc' := 17) B e12_16 ?_
 refine Ow.baload (pc' := 18) B e12_17 hf0 ⟨by decide, by decide⟩ rfl ?_
 refine Ow.aloadN (pc' := 19) B e12_18 ?_
 refine Ow.iloadN (pc' := 20) B e12_19 ?_
 refine Ow.baload (pc' := 21) B e12_20 hf1 ⟨by decide, by decide⟩ rfl ?_
 refine Ow.icmpF (pc' := 24) B e12_21 (feq ((by simp only [Int32.lt_iff_toInt_lt, ← Int32.toInt_inj, Int32.reduceToInt]; omega))).1 ?_
 refine Ow.iconst (pc' := 25) (x := 0) B e12_24 ?_
 exact Ow.retI (S' := []) (t := .boolean) B e12_25 (⟨rfl, rfl, rfl⟩)
set_option maxRecDepth 65536 in
set_option maxHeartbeats 40000000 in
theorem con_equals_2 (hw : Hw a0 Z) (G : Ow.Glo Z cz sf) {u0 u1 u2 : Nat} (GS : GlS Z u0 u1 u2) {pa0 : Nat} {pa1 : Nat} {pa2 : Nat} {pa3 : Nat} {px0 : Int32} {pk0 : ClassId} {pk1 : ClassId} {h0 : Heap} (O0 : Old Z n0 h0) (hf0 : Fld Z h0 pa0 "java/lang/String" "coder" "B" (.int 0)) (hf1 : Fld Z h0 pa0 "java/lang/String" "value" "[B" (.ref pa2)) (hf2 : Exa Z h0 pa1 "java/lang/String") (hf3 : Fld Z h0 pa1 "java/lang/String" "coder" "B" (.int 0)) (hf4 : Fld Z h0 pa1 "java/lang/String" "value" "[B" (.ref pa3)) (hf5 : Arv Z h0 pa2 pk0 .byte (1 : Int32) [(.int px0.toInt8.toInt32)] (.int 0)) (hf6 : Arv Z h0 pa3 pk1 .byte (1 : Int32) [(.int 47)] (.int 0)) (hd0 : pa0 ≠ pa1) (hk0 : alP px0) :
    Ow.Con l Z EL1 n0 my8 jdk_42_method_66_code 3 (Option.some Jvm.ClassFile.FieldType.boolean) [] ({ frames := 1, cells := 0, slots := 0, locals := 14 } : Room) #[(.ref pa0), (.ref pa1)] [pa0] h0 (fun v h S' => (v = some (.int 0) ∧ h = h0 ∧ S' = [])) := by
 refine Ow.Con.enter (Ls := #[.val (.ref pa0), .val (.ref pa1), .unset]) (plainFor_of_name pn1) O0 (hEW hw) (hSA hw) ?_
 intro p e s m below meth c B
 have z0 := Ow.old_le O0
 have lu0 : (u0 : Nat) < n0 := O0.1 ▸ GS.2.1.lt
 have lu1 : (u1 : Nat) < n0 := O0.1 ▸ GS.2.2.2.2.1.lt
 have lu2 : (u2 : Nat) < n0 := O0.1 ▸ GS.2.2.2.2.2.2.lt
 have lpa0 : (pa0 : Nat) < h0.size := hf0.lt
 have lpa1 : (pa1 : Nat) < h0.size := hf2.lt
 have lpa2 : (pa2 : Nat) < h0.size := hf5.lt
 have lpa3 : (pa3 : Nat) < h0.size := hf6.lt
 refine Ow.aloadN (pc' := 1) B e11_0 ?_
 refine Ow.aloadN (pc' := 2) B e11_1 ?_
 refine Ow.acmpR (pc' := 7) (same := false) B e11_2 (decide_eq_false (fun q => absurd (show (pa0 : Nat) = pa1 from Value.ref.inj q) (by omega))) ?_
 refine Ow.aloadN (pc' := 8) B e11_7 ?_
 refine Ow.instYes (pc' := 11) B e11_8 (w86 hw) (Ins.self hf2) ?_
 refine Ow.ifF (pc' := 14) B e11_11 (by decide) ?_
 refine Ow.aloadN (pc' := 15) B e11_14 ?_
 refine Ow.checkcast (pc' := 18) B e11_15 (w86 hw) (Ins.self hf2) ?_
 refine Ow.astoreN (pc' := 19) (Ls' := #[.val (.ref pa0), .val (.ref pa1), .val (.ref pa1)]) B e11_18 ?_
 refine Ow.getstatic (pc' := 22) B e11_19 (w21 hw) Via.refl G.1 ?_
 refine Ow.ifF (pc' := 25) B e11_22 (feq (G.2.1)).1 ?_
 refine Ow.aloadN (pc' := 26) B e11_25 ?_
 refine Ow.getfield (pc' := 29) B e11_26 (w33 hw) Via.refl hf0 ?_
 refine Ow.aloadN (pc' := 30) B e11_29 ?_
 refine Ow.getfield (pc' := 33) B e11_30 (w33 hw) Via.refl hf3 ?_
 refine Ow.icmpF (pc' := 36) B e11_33 (by decide) ?_
 refine Ow.aloadN (pc' := 37) B e11_36 ?_
 refine Ow.getfield (pc' := 40) B e11_37 (w35 hw) Via.refl hf1 ?_
 refine Ow.aloadN (pc' := 41) B e11_40 ?_
 refine Ow.getfield (pc' := 44) B e11_41 (w35 hw) Via.refl hf4 ?_
 refine Ow.Go.old (fun o1 => ?_)
 refine Ow.callStatic (pc' := 47) (W := 0) (k' := 0) (n' := 0) (argsL := [(.ref pa2), (.ref pa3)]) (rest := []) B e11_44 (w87 hw) (w88 hw) (w89 hw) (w90 hw) (con_equals_1 hw G GS (pa0 := pa2) (pa1 := pa3) (px0 := px0) (pk0 := pk0) (pk1 := pk1) o1 hf5 hf6 (hk0)) pd6 ?_
 intro vq2 h3 S4 q2 zh3
 obtain ⟨rfl, rfl, rfl⟩ := q2
 refine Ow.Go.nr (S' := [pa0]) (st' := [(.int 0)]) ?_
 refine Ow.ifT (pc' := 54) B e11_47 (by decide) ?_
 refine Ow.iconst (pc' := 55) (x := 0) B e11_54 ?_
 exact Ow.retI (S' := []) (t := .boolean) B e11_55 (⟨rfl, rfl, rfl⟩)
set_option maxRecDepth 65536 in
set_option maxHeartbeats 40000000 in
theorem con_coder_3 (hw : Hw a0 Z) (G : Ow.Glo Z cz sf) {u0 u1 u2 : Nat} (GS : GlS Z u0 u1 u2) {pa0 : Nat} {h0 : Heap} (O0 : Old Z n0 h0) (hf0 : Fld Z h0 pa0 "java/lang/String" "coder" "B" (.int 0)) :
    Ow.Con l Z EL1 n0 my9 jdk_42_method_152_code 1 (Option.some Jvm.ClassFile.FieldType.byte) [] ({ frames := 0, cells := 0, slots := 0, locals := 0 } : Room) #[(.ref pa0)] [pa0] h0 (fun v h S' => (v = some (.int 0) ∧ h = h0 ∧ S' = [])) := by
 refine Ow.Con.enter (Ls := #[.val (.ref pa0)]) (plainFor_of_name pn1) O0 (hEW hw) (hSA hw) ?_
 intro p e s m below meth c B
 have z0 := Ow.old_le O0
 have lu0 : (u0 : Nat) < n0 := O0.1 ▸ GS.2.1.lt
 have lu1 : (u1 : Nat) < n0 := O0.1 ▸ GS.2.2.2.2.1.lt
 have lu2 : (u2 : Nat) < n0 := O0.1 ▸ GS.2.2.2.2.2.2.lt
 have lpa0 : (pa0 : Nat) < h0.size := hf0.lt
 refine Ow.getstatic (pc' := 3) B e17_0 (w21 hw) Via.refl G.1 ?_
 refine Ow.ifF (pc' := 6) B e17_3 (feq (G.2.1)).1 ?_
 refine Ow.aloadN (pc' := 7) B e17_6 ?_
 refine Ow.getfield (pc' := 10) B e17_7 (w33 hw) Via.refl hf0 ?_
 refine Ow.goto (pc' := 14) B e17_10 ?_
 exact Ow.retI (S' := []) (t := .byte) B e17_14 (⟨rfl, rfl, rfl⟩)
set_option maxRecDepth 65536 in
set_option maxHeartbeats 40000000 in
theorem con_length_4 (hw : Hw a0 Z) (G : Ow.Glo Z cz sf) {u0 u1 u2 : Nat} (GS : GlS Z u0 u1 u2) {pa0 : Nat} {pa1 : Nat} {px0 : Int32} {pk0 : ClassId} {h0 : Heap} (O0 : Old Z n0 h0) (hf0 : Exa Z h0 pa0 "java/lang/String") (hf1 : Fld Z h0 pa0 "java/lang/String" "coder" "B" (.int 0)) (hf2 : Fld Z h0 pa0 "java/lang/String" "value" "[B" (.ref pa1)) (hf3 : Arv Z h0 pa1 pk0 .byte (1 : Int32) [(.int px0.toInt8.toInt32)] (.int 0)) :
    Ow.Con l Z EL1 n0 my10 jdk_42_method_54_code 1 (Option.some Jvm.ClassFile.FieldType.int) [] ({ frames := 1, cells := 0, slots := 0, locals := 13 } : Room) #[(.ref pa0)] [pa0] h0 (fun v h S' => (v = some (.int 1) ∧ h = h0 ∧ S' = [])) := by
 refine Ow.Con.enter (Ls := #[.val (.ref pa0)]) (plainFor_of_name pn1) O0 (hEW hw) (hSA hw) ?_
 intro p e s m below meth c B
 have z0 := Ow.old_le O0
 have lu0 : (u0 : Nat) < n0 := O0.1 ▸ GS.2.1.lt
 have lu1 : (u1 : Nat) < n0 := O0.1 ▸ GS.2.2.2.2.1.lt
 have lu2 : (u2 : Nat) < n0 := O0.1 ▸ GS.2.2.2.2.2.2.lt
 have lpa0 : (pa0 : Nat) < h0.size := hf0.lt
 have lpa1 : (pa1 : Nat) < h0.size := hf3.lt
 refine Ow.aloadN (pc' := 1) B e16_0 ?_
 refine Ow.getfield (pc' := 4) B e16_1 (w35 hw) Via.refl hf2 ?_
 refine Ow.arrlen (pc' := 5) B e16_4 hf3 ?_
 refine Ow.aloadN (pc' := 6) B e16_5 ?_
 refine Ow.Go.old (fun o1 => ?_)
 refine Ow.callVirtual (pc' := 9) (W := 1) (k' := 0) (n' := 0) (argsL := []) (rest := [(.int 1)]) (K := "java/lang/String") B e16_6 (w109 hw) (w110 hw) (w112 hw) (w112 hw) (w111 hw) (w6 hw) (w113 hw) hf0 (con_coder_3 hw G GS (pa0 := pa0) o1 hf1) pd8 ?_
 intro vq2 h3 S4 q2 zh3
 obtain ⟨rfl, rfl, rfl⟩ := q2
 refine Ow.Go.nr (S' := [pa0]) (st' := [(.int 0), (.int 1)]) ?_
 refine Ow.ishr (pc' := 10) (z := 1) B e16_9 ?_
 exact Ow.retI (S' := []) (t := .int) B e16_10 (⟨rfl, rfl, rfl⟩)
set_option maxRecDepth 65536 in
set_option maxHeartbeats 40000000 in
theorem con_coder_5 (hw : Hw a0 Z) (G : Ow.Glo Z cz sf) {u0 u1 u2 : Nat} (GS : GlS Z u0 u1 u2) {pa0 : Nat} {h0 : Heap} (O0 : Old Z n0 h0) (hf0 : Fld Z h0 pa0 "java/lang/String" "coder" "B" (.int 0)) :
    Ow.Con l Z EL1 n0 my9 jdk_42_method_152_code 1 (Option.some Jvm.ClassFile.FieldType.byte) [] ({ frames := 0, cells := 0, slots := 0, locals := 0 } : Room) #[(.ref pa0)] [] h0 (fun v h S' => (v = some (.int 0) ∧ h = h0 ∧ S' = [])) := by
 refine Ow.Con.enter (Ls := #[.val (.ref pa0)]) (plainFor_of_name pn1) O0 (hEW hw) (hSA hw) ?_
 intro p e s m below meth c B
 have z0 := Ow.old_le O0
 have lu0 : (u0 : Nat) < n0 := O0.1 ▸ GS.2.1.lt
 have lu1 : (u1 : Nat) < n0 := O0.1 ▸ GS.2.2.2.2.1.lt
 have lu2 : (u2 : Nat) < n0 := O0.1 ▸ GS.2.2.2.2.2.2.lt
 have lpa0 : (pa0 : Nat) < h0.size := hf0.lt
 refine Ow.getstatic (pc' := 3) B e17_0 (w21 hw) Via.refl G.1 ?_
 refine Ow.ifF (pc' := 6) B e17_3 (feq (G.2.1)).1 ?_
 refine Ow.aloadN (pc' := 7) B e17_6 ?_
 refine Ow.getfield (pc' := 10) B e17_7 (w33 hw) Via.refl hf0 ?_
 refine Ow.goto (pc' := 14) B e17_10 ?_
 exact Ow.retI (S' := []) (t := .byte) B e17_14 (⟨rfl, rfl, rfl⟩)
set_option maxRecDepth 65536 in
set_option maxHeartbeats 40000000 in
theorem con_length_6 (hw : Hw a0 Z) (G : Ow.Glo Z cz sf) {u0 u1 u2 : Nat} (GS : GlS Z u0 u1 u2) {pa0 : Nat} {pa1 : Nat} {pk0 : ClassId} {h0 : Heap} (O0 : Old Z n0 h0) (hf0 : Exa Z h0 pa0 "java/lang/String") (hf1 : Fld Z h0 pa0 "java/lang/String" "coder" "B" (.int 0)) (hf2 : Fld Z h0 pa0 "java/lang/String" "value" "[B" (.ref pa1)) (hf3 : Arv Z h0 pa1 pk0 .byte (1 : Int32) [(.int 47)] (.int 0)) :
    Ow.Con l Z EL1 n0 my10 jdk_42_method_54_code 1 (Option.some Jvm.ClassFile.FieldType.int) [] ({ frames := 1, cells := 0, slots := 0, locals := 13 } : Room) #[(.ref pa0)] [] h0 (fun v h S' => (v = some (.int 1) ∧ h = h0 ∧ S' = [])) := by
 refine Ow.Con.enter (Ls := #[.val (.ref pa0)]) (plainFor_of_name pn1) O0 (hEW hw) (hSA hw) ?_
 intro p e s m below meth c B
 have z0 := Ow.old_le O0
 have lu0 : (u0 : Nat) < n0 := O0.1 ▸ GS.2.1.lt
 have lu1 : (u1 : Nat) < n0 := O0.1 ▸ GS.2.2.2.2.1.lt
 have lu2 : (u2 : Nat) < n0 := O0.1 ▸ GS.2.2.2.2.2.2.lt
 have lpa0 : (pa0 : Nat) < h0.size := hf0.lt
 have lpa1 : (pa1 : Nat) < h0.size := hf3.lt
 refine Ow.aloadN (pc' := 1) B e16_0 ?_
 refine Ow.getfield (pc' := 4) B e16_1 (w35 hw) Via.refl hf2 ?_
 refine Ow.arrlen (pc' := 5) B e16_4 hf3 ?_
 refine Ow.aloadN (pc' := 6) B e16_5 ?_
 refine Ow.Go.old (fun o1 => ?_)
 refine Ow.callVirtual (pc' := 9) (W := 1) (k' := 0) (n' := 0) (argsL := []) (rest := [(.int 1)]) (K := "java/lang/String") B e16_6 (w109 hw) (w110 hw) (w112 hw) (w112 hw) (w111 hw) (w6 hw) (w113 hw) hf0 (con_coder_5 hw G GS (pa0 := pa0) o1 hf1) pd8 ?_
 intro vq2 h3 S4 q2 zh3
 obtain ⟨rfl, rfl, rfl⟩ := q2
 refine Ow.Go.nr (S' := []) (st' := [(.int 0), (.int 1)]) ?_
 refine Ow.ishr (pc' := 10) (z := 1) B e16_9 ?_
 exact Ow.retI (S' := []) (t := .int) B e16_10 (⟨rfl, rfl, rfl⟩)
set_option maxRecDepth 65536 in
set_option maxHeartbeats 40000000 in
theorem con_mismatch_7 (hw : Hw a0 Z) (G : Ow.Glo Z cz sf) {u0 u1 u2 : Nat} (GS : GlS Z u0 u1 u2) {pa0 : Nat} {pa1 : Nat} {px0 : Int32} {pk0 : ClassId} {pk1 : ClassId} {h0 : Heap} (O0 : Old Z n0 h0) (hf0 : Arv Z h0 pa0 pk0 .byte (1 : Int32) [(.int px0.toInt8.toInt32)] (.int 0)) (hf1 : Arv Z h0 pa1 pk1 .byte (1 : Int32) [(.int 47)] (.int 0)) (hk0 : alP px0) :
    Ow.Con l Z EL1 n0 my11 jdk_48_method_14_code 8 (Option.some Jvm.ClassFile.FieldType.int) [] ({ frames := 0, cells := 0, slots := 0, locals := 0 } : Room) #[(.ref pa0), (.int 0), (.ref pa1), (.int 0), (.int 1)] [] h0 (fun v h S' => (v = some (.int 0) ∧ h = h0 ∧ S' = [])) := by
 refine Ow.Con.enter (Ls := #[.val (.ref pa0), .val (.int 0), .val (.ref pa1), .val (.int 0), .val (.int 1), .unset, .unset, .unset]) (plainFor_of_name pn6) O0 (hEW hw) (hSA hw) ?_
 intro p e s m below meth c B
 have z0 := Ow.old_le O0
 have lu0 : (u0 : Nat) < n0 := O0.1 ▸ GS.2.1.lt
 have lu1 : (u1 : Nat) < n0 := O0.1 ▸ GS.2.2.2.2.1.lt
 have lu2 : (u2 : Nat) < n0 := O0.1 ▸ GS.2.2.2.2.2.2.lt
 have lpa0 : (pa0 : Nat) < h0.size := hf0.lt
 have lpa1 : (pa1 : Nat) < h0.size := hf1.lt
 have i0 := hk0
 have e0 := own_al8 i0
 unfold alP at i0
 refine Ow.iconst (pc' := 1) (x := 0) B e18_0 ?_
 refine Ow.istore (pc' := 3) (Ls' := #[.val (.ref pa0), .val (.int 0), .val (.ref pa1), .val (.int 0), .val (.int 1), .val (.int 0), .unset, .unset]) B e18_1 ?_
 refine Ow.iload (pc' := 5) B e18_3 ?_
 refine Ow.bipush (pc' := 7) (x := 7) B e18_5 ?_
 refine Ow.icmpT (pc' := 70) B e18_7 (by decide) ?_
 refine Ow.iload (pc' := 72) B e18_70 ?_
 refine Ow.iload (pc' := 74) B e18_72 ?_
 refine Ow.icmpF (pc' := 77) B e18_74 (by decide) ?_
 refine Ow.aloadN (pc' := 78) B e18_77 ?_
 refine Ow.iloadN (pc' := 79) B e18_78 ?_
 refine Ow.iload (pc' := 81) B e18_79 ?_
 refine Ow.iadd (pc' := 82) (z := 0) B e18_81 ?_
 refine Ow.baload (pc' := 83) B e18_82 hf0 ⟨by decide, by decide⟩ rfl ?_
 refine Ow.aloadN (pc' := 84) B e18_83 ?_
 refine Ow.iloadN (pc' := 85) B e18_84 ?_
 refine Ow.iload (pc' := 87) B e18_85 ?_
 refine Ow.iadd (pc' := 88) (z := 0) B e18_87 ?_
 refine Ow.baload (pc' := 89) B e18_88 hf1 ⟨by decide, by decide⟩ rfl ?_
 refine Ow.icmpF (pc' := 92) B e18_89 (feq ((by simp only [Int32.lt_iff_toInt_lt, ← Int32.toInt_inj, Int32.reduceToInt]; omega))).1 ?_
 refine Ow.iload (pc' := 94) B e18_92 ?_
 exact Ow.retI (S' := []) (t := .int) B e18_94 (⟨rfl, rfl, rfl⟩)
set_option maxRecDepth 65536 in
set_option maxHeartbeats 40000000 in
theorem con_startsWith_8 (hw : Hw a0 Z) (G : Ow.Glo Z cz sf) {u0 u1 u2 : Nat} (GS : GlS Z u0 u1 u2) {pa0 : Nat} {pa1 : Nat} {pa2 : Nat} {pa3 : Nat} {px0 : Int32} {pk0 : ClassId} {pk1 : ClassId} {h0 : Heap} (O0 : Old Z n0 h0) (hf0 : Exa Z h0 pa0 "java/lang/String") (hf1 : Fld Z h0 pa0 "java/lang/String" "coder" "B" (.int 0)) (hf2 : Fld Z h0 pa0 "java/lang/String" "value" "[B" (.ref pa2)) (hf3 : Exa Z h0 pa1 "java/lang/String") (hf4 : Fld Z h0 pa1 "java/lang/String" "coder" "B" (.int 0)) (hf5 : Fld Z h0 pa1 "java/lang/String" "value" "[B" (.ref pa3)) (hf6 : Arv Z h0 pa2 pk0 .byte (1 : Int32) [(.int px0.toInt8.toInt32)] (.int 0)) (hf7 : Arv Z h0 pa3 pk1 .byte (1 : Int32) [(.int 47)] (.int 0)) (hk0 : alP px0) :
    Ow.Con l Z EL1 n0 my12 jdk_42_method_75_code 8 (Option.some Jvm.ClassFile.FieldType.boolean) [] ({ frames := 2, cells := 0, slots := 0, locals := 27 } : Room) #[(.ref pa0), (.ref pa1), (.int 0)] [pa0] h0 (fun v h S' => (v = some (.int 0) ∧ h = h0 ∧ S' = [])) := by
 refine Ow.Con.enter (Ls := #[.val (.ref pa0), .val (.ref pa1), .val (.int 0), .unset, .unset, .unset, .unset, .unset]) (plainFor_of_name pn1) O0 (hEW hw) (hSA hw) ?_
 intro p e s m below meth c B
 have z0 := Ow.old_le O0
 have lu0 : (u0 : Nat) < n0 := O0.1 ▸ GS.2.1.lt
 have lu1 : (u1 : Nat) < n0 := O0.1 ▸ GS.2.2.2.2.1.lt
 have lu2 : (u2 : Nat) < n0 := O0.1 ▸ GS.2.2.2.2.2.2.lt
 have lpa0 : (pa0 : Nat) < h0.size := hf0.lt
 have lpa1 : (pa1 : Nat) < h0.size := hf3.lt
 have lpa2 : (pa2 : Nat) < h0.size := hf6.lt
 have lpa3 : (pa3 : Nat) < h0.size := hf7.lt
 refine Ow.iloadN (pc' := 1) B e15_0 ?_
 refine Ow.ifF (pc' := 4) B e15_1 (by decide) ?_
 refine Ow.iloadN (pc' := 5) B e15_4 ?_
 refine Ow.aloadN (pc' := 6) B e15_5 ?_
 refine Ow.Go.old (fun o1 => ?_)
 refine Ow.callVirtual (pc' := 9) (W := 1) (k' := 0) (n' := 0) (argsL := []) (rest := [(.int 0)]) (K := "java/lang/String") B e15_6 (w104 hw) (w105 hw) (w107 hw) (w107 hw) (w106 hw) (w6 hw) (w108 hw) hf0 (con_length_4 hw G GS (pa0 := pa0) (pa1 := pa2) (px0 := px0) (pk0 := pk0) o1 hf0 hf1 hf2 hf6) pd9 ?_
 intro vq2 h3 S4 q2 zh3
 obtain ⟨rfl, rfl, rfl⟩ := q2
 refine Ow.Go.nr (S' := [pa0]) (st' := [(.int 1), (.int 0)]) ?_
 refine Ow.aloadN (pc' := 10) B e15_9 ?_
 refine Ow.Go.old (fun o5 => ?_)
 refine Ow.callVirtual (pc' := 13) (W := 2) (k' := 0) (n' := 0) (argsL := []) (rest := [(.int 1), (.int 0)]) (K := "java/lang/String") B e15_10 (w104 hw) (w105 hw) (w107 hw) (w107 hw) (w106 hw) (w6 hw) (w108 hw) hf3 (con_length_6 hw G GS (pa0 := pa1) (pa1 := pa3) (pk0 := pk1) o5 hf3 hf4 hf5 hf7) pd9 ?_
 intro vq6 h7 S8 q6 zh7
 obtain ⟨rfl, rfl, rfl⟩ := q6
 refine Ow.Go.nr (S' := [pa0]) (st' := [(.int 1), (.int 1), (.int 0)]) ?_
 refine Ow.isub (pc' := 14) (z := 0) B e15_13 ?_
 refine Ow.icmpT (pc' := 19) B e15_14 (by decide) ?_
 refine Ow.aloadN (pc' := 20) B e15_19 ?_
 refine Ow.getfield (pc' := 23) B e15_20 (w35 hw) Via.refl hf2 ?_
 refine Ow.astoreN (pc' := 24) (Ls' := #[.val (.ref pa0), .val (.ref pa1), .val (.int 0), .val (.ref pa2), .unset, .unset, .unset, .unset]) B e15_23 ?_
 refine Ow.aloadN (pc' := 25) B e15_24 ?_
 refine Ow.getfield (pc' := 28) B e15_25 (w35 hw) Via.refl hf5 ?_
 refine Ow.astore (pc' := 30) (Ls' := #[.val (.ref pa0), .val (.ref pa1), .val (.int 0), .val (.ref pa2), .val (.ref pa3), .unset, .unset, .unset]) B e15_28 ?_
 refine Ow.iconst (pc' := 31) (x := 0) B e15_30 ?_
 refine Ow.istore (pc' := 33) (Ls' := #[.val (.ref pa0), .val (.ref pa1), .val (.int 0), .val (.ref pa2), .val (.ref pa3), .val (.int 0), .unset, .unset]) B e15_31 ?_
 refine Ow.aload (pc' := 35) B e15_33 ?_
 refine Ow.arrlen (pc' := 36) B e15_35 hf7 ?_
 refine Ow.istore (pc' := 38) (Ls' := #[.val (.ref pa0), .val (.ref pa1), .val (.int 0), .val (.ref pa2), .val (.ref pa3), .val (.int 0), .val (.int 1), .unset]) B e15_36 ?_
 refine Ow.aloadN (pc' := 39) B e15_38 ?_
 refine Ow.Go.old (fun o9 => ?_)
 refine Ow.callVirtual (pc' := 42) (W := 0) (k' := 0) (n' := 0) (argsL := []) (rest := []) (K := "java/lang/String") B e15_39 (w109 hw) (w110 hw) (w112 hw) (w112 hw) (w111 hw) (w6 hw) (w113 hw) hf0 (con_coder_3 hw G GS (pa0 := pa0) o9 hf1) pd8 ?_
 intro vq10 h11 S12 q10 zh11
 obtain ⟨rfl, rfl, rfl⟩ := q10
 refine Ow.Go.nr (S' := [pa0]) (st' := [(.int 0)]) ?_
 refine Ow.istore (pc' := 44) (Ls' := #[.val (.ref pa0), .val (.ref pa1), .val (.int 0), .val (.ref pa2), .val (.ref pa3), .val (.int 0), .val (.int 1), .val (.int 0)]) B e15_42 ?_
 refine Ow.iload (pc' := 46) B e15_44 ?_
 refine Ow.aloadN (pc' := 47) B e15_46 ?_
 refine Ow.Go.old (fun o13 => ?_)
 refine Ow.callVirtual (pc' := 50) (W := 1) (k' := 0) (n' := 0) (argsL := []) (rest := [(.int 0)]) (K := "java/lang/String") B e15_47 (w109 hw) (w110 hw) (w112 hw) (w112 hw) (w111 hw) (w6 hw) (w113 hw) hf3 (con_coder_5 hw G GS (pa0 := pa1) o13 hf4) pd8 ?_
 intro vq14 h15 S16 q14 zh15
 obtain ⟨rfl, rfl, rfl⟩ := q14
 refine Ow.Go.nr (S' := [pa0]) (st' := [(.int 0), (.int 0)]) ?_
 refine Ow.icmpF (pc' := 53) B e15_50 (by decide) ?_
 refine Ow.iload (pc' := 55) B e15_53 ?_
 refine Ow.iconst (pc' := 56) (x := 1) B e15_55 ?_
 refine Ow.icmpT (pc' := 63) B e15_56 (by decide) ?_
 refine Ow.aloadN (pc' := 64) B e15_63 ?_
 refine Ow.iloadN (pc' := 65) B e15_64 ?_
 refine Ow.aload (pc' := 67) B e15_65 ?_
 refine Ow.iconst (pc' := 68) (x := 0) B e15_67 ?_
 refine Ow.iload (pc' := 70) B e15_68 ?_
 refine Ow.Go.old (fun o17 => ?_)
 refine Ow.callStatic (pc' := 73) (W := 0) (k' := 0) (n' := 0) (argsL := [(.ref pa2), (.int 0), (.ref pa3), (.int 0), (.int 1)]) (rest := []) B e15_70 (w114 hw) (w115 hw) (w116 hw) (w117 hw) (con_mismatch_7 hw G GS (pa0 := pa2) (pa1 := pa3) (px0 := px0) (pk0 := pk0) (pk1 := pk1) o17 hf6 hf7 (hk0)) pd10 ?_
 intro vq18 h19 S20 q18 zh19
 obtain ⟨rfl, rfl, rfl⟩ := q18
 refine Ow.Go.nr (S' := [pa0]) (st' := [(.int 0)]) ?_
 refine Ow.ifT (pc' := 80) B e15_73 (by decide) ?_
 refine Ow.iconst (pc' := 81) (x := 0) B e15_80 ?_
 exact Ow.retI (S' := []) (t := .boolean) B e15_81 (⟨rfl, rfl, rfl⟩)
set_option maxRecDepth 65536 in
set_option maxHeartbeats 40000000 in
theorem con_startsWith_9 (hw : Hw a0 Z) (G : Ow.Glo Z cz sf) {u0 u1 u2 : Nat} (GS : GlS Z u0 u1 u2) {pa0 : Nat} {pa1 : Nat} {pa2 : Nat} {pa3 : Nat} {px0 : Int32} {pk0 : ClassId} {pk1 : ClassId} {h0 : Heap} (O0 : Old Z n0 h0) (hf0 : Exa Z h0 pa0 "java/lang/String") (hf1 : Fld Z h0 pa0 "java/lang/String" "coder" "B" (.int 0)) (hf2 : Fld Z h0 pa0 "java/lang/String" "value" "[B" (.ref pa2)) (hf3 : Exa Z h0 pa1 "java/lang/String") (hf4 : Fld Z h0 pa1 "java/lang/String" "coder" "B" (.int 0)) (hf5 : Fld Z h0 pa1 "java/lang/String" "value" "[B" (.ref pa3)) (hf6 : Arv Z h0 pa2 pk0 .byte (1 : Int32) [(.int px0.toInt8.toInt32)] (.int 0)) (hf7 : Arv Z h0 pa3 pk1 .byte (1 : Int32) [(.int 47)] (.int 0)) (hk0 : alP px0) :
    Ow.Con l Z EL1 n0 my13 jdk_42_method_76_code 2 (Option.some Jvm.ClassFile.FieldType.boolean) [] ({ frames := 3, cells := 0, slots := 0, locals := 46 } : Room) #[(.ref pa0), (.ref pa1)] [pa0] h0 (fun v h S' => (v = some (.int 0) ∧ h = h0 ∧ S' = [])) := by
 refine Ow.Con.enter (Ls := #[.val (.ref pa0), .val (.ref pa1)]) (plainFor_of_name pn1) O0 (hEW hw) (hSA hw) ?_
 intro p e s m below meth c B
 have z0 := Ow.old_le O0
 have lu0 : (u0 : Nat) < n0 := O0.1 ▸ GS.2.1.lt
 have lu1 : (u1 : Nat) < n0 := O0.1 ▸ GS.2.2.2.2.1.lt
 have lu2 : (u2 : Nat) < n0 := O0.1 ▸ GS.2.2.2.2.2.2.lt
 have lpa0 : (pa0 : Nat) < h0.size := hf0.lt
 have lpa1 : (pa1 : Nat) < h0.size := hf3.lt
 have lpa2 : (pa2 : Nat) < h0.size := hf6.lt
 have lpa3 : (pa3 : Nat) < h0.size := hf7.lt
 refine Ow.aloadN (pc' := 1) B e14_0 ?_
 refine Ow.aloadN (pc' := 2) B e14_1 ?_
 refine Ow.iconst (pc' := 3) (x := 0) B e14_2 ?_
 refine Ow.Go.old (fun o1 => ?_)
 refine Ow.callVirtual (pc' := 6) (W := 0) (k' := 0) (n' := 0) (argsL := [(.ref pa1), (.int 0)]) (rest := []) (K := "java/lang/String") B e14_3 (w99 hw) (w100 hw) (w102 hw) (w102 hw) (w101 hw) (w6 hw) (w103 hw) hf0 (con_startsWith_8 hw G GS (pa0 := pa0) (pa1 := pa1) (pa2 := pa2) (pa3 := pa3) (px0 := px0) (pk0 := pk0) (pk1 := pk1) o1 hf0 hf1 hf2 hf3 hf4 hf5 hf6 hf7 (hk0)) pd11 ?_
 intro vq2 h3 S4 q2 zh3
 obtain ⟨rfl, rfl, rfl⟩ := q2
 refine Ow.Go.nr (S' := [pa0]) (st' := [(.int 0)]) ?_
 exact Ow.retI (S' := []) (t := .boolean) B e14_6 (⟨rfl, rfl, rfl⟩)
set_option maxRecDepth 65536 in
set_option maxHeartbeats 40000000 in
theorem con_endsWith_10 (hw : Hw a0 Z) (G : Ow.Glo Z cz sf) {u0 u1 u2 : Nat} (GS : GlS Z u0 u1 u2) {pa0 : Nat} {pa1 : Nat} {pa2 : Nat} {pa3 : Nat} {px0 : Int32} {pk0 : ClassId} {pk1 : ClassId} {h0 : Heap} (O0 : Old Z n0 h0) (hf0 : Exa Z h0 pa0 "java/lang/String") (hf1 : Fld Z h0 pa0 "java/lang/String" "coder" "B" (.int 0)) (hf2 : Fld Z h0 pa0 "java/lang/String" "value" "[B" (.ref pa2)) (hf3 : Exa Z h0 pa1 "java/lang/String") (hf4 : Fld Z h0 pa1 "java/lang/String" "coder" "B" (.int 0)) (hf5 : Fld Z h0 pa1 "java/lang/String" "value" "[B" (.ref pa3)) (hf6 : Arv Z h0 pa2 pk0 .byte (1 : Int32) [(.int px0.toInt8.toInt32)] (.int 0)) (hf7 : Arv Z h0 pa3 pk1 .byte (1 : Int32) [(.int 47)] (.int 0)) (hk0 : alP px0) :
    Ow.Con l Z EL1 n0 my14 jdk_42_method_77_code 2 (Option.some Jvm.ClassFile.FieldType.boolean) [] ({ frames := 3, cells := 0, slots := 0, locals := 46 } : Room) #[(.ref pa0), (.ref pa1)] [pa0] h0 (fun v h S' => (v = some (.int 0) ∧ h = h0 ∧ S' = [])) := by
 refine Ow.Con.enter (Ls := #[.val (.ref pa0), .val (.ref pa1)]) (plainFor_of_name pn1) O0 (hEW hw) (hSA hw) ?_
 intro p e s m below meth c B
 have z0 := Ow.old_le O0
 have lu0 : (u0 : Nat) < n0 := O0.1 ▸ GS.2.1.lt
 have lu1 : (u1 : Nat) < n0 := O0.1 ▸ GS.2.2.2.2.1.lt
 have lu2 : (u2 : Nat) < n0 := O0.1 ▸ GS.2.2.2.2.2.2.lt
 have lpa0 : (pa0 : Nat) < h0.size := hf0.lt
 have lpa1 : (pa1 : Nat) < h0.size := hf3.lt
 have lpa2 : (pa2 : Nat) < h0.size := hf6.lt
 have lpa3 : (pa3 : Nat) < h0.size := hf7.lt
 refine Ow.aloadN (pc' := 1) B e19_0 ?_
 refine Ow.aloadN (pc' := 2) B e19_1 ?_
 refine Ow.aloadN (pc' := 3) B e19_2 ?_
 refine Ow.Go.old (fun o1 => ?_)
 refine Ow.callVirtual (pc' := 6) (W := 2) (k' := 0) (n' := 0) (argsL := []) (rest := [(.ref pa1), (.ref pa0)]) (K := "java/lang/String") B e19_3 (w104 hw) (w105 hw) (w107 hw) (w107 hw) (w106 hw) (w6 hw) (w108 hw) hf0 (con_length_4 hw G GS (pa0 := pa0) (pa1 := pa2) (px0 := px0) (pk0 := pk0) o1 hf0 hf1 hf2 hf6) pd9 ?_
 intro vq2 h3 S4 q2 zh3
 obtain ⟨rfl, rfl, rfl⟩ := q2
 refine Ow.Go.nr (S' := [pa0]) (st' := [(.int 1), (.ref pa1), (.ref pa0)]) ?_
 refine Ow.aloadN (pc' := 7) B e19_6 ?_
 refine Ow.Go.old (fun o5 => ?_)
 refine Ow.callVirtual (pc' := 10) (W := 3) (k' := 0) (n' := 0) (argsL := []) (rest := [(.int 1), (.ref pa1), (.ref pa0)]) (K := "java/lang/String") B e19_7 (w104 hw) (w105 hw) (w107 hw) (w107 hw) (w106 hw) (w6 hw) (w108 hw) hf3 (con_length_6 hw G GS (pa0 := pa1) (pa1 := pa3) (pk0 := pk1) o5 hf3 hf4 hf5 hf7) pd9 ?_
 intro vq6 h7 S8 q6 zh7
 obtain ⟨rfl, rfl, rfl⟩ := q6
 refine Ow.Go.nr (S' := [pa0]) (st' := [(.int 1), (.int 1), (.ref pa1), (.ref pa0)]) ?_
 refine Ow.isub (pc' := 11) (z := 0) B e19_10 ?_
 refine Ow.Go.old (fun o9 => ?_)
 refine Ow.callVirtual (pc' := 14) (W := 0) (k' := 0) (n' := 0) (argsL := [(.ref pa1), (.int 0)]) (rest := []) (K := "java/lang/String") B e19_11 (w99 hw) (w100 hw) (w102 hw) (w102 hw) (w101 hw) (w6 hw) (w103 hw) hf0 (con_startsWith_8 hw G GS (pa0 := pa0) (pa1 := pa1) (pa2 := pa2) (pa3 := pa3) (px0 := px0) (pk0 := pk0) (pk1 := pk1) o9 hf0 hf1 hf2 hf3 hf4 hf5 hf6 hf7 (hk0)) pd11 ?_
 intro vq10 h11 S12 q10 zh11
 obtain ⟨rfl, rfl, rfl⟩ := q10
 refine Ow.Go.nr (S' := [pa0]) (st' := [(.int 0)]) ?_
 exact Ow.retI (S' := []) (t := .boolean) B e19_14 (⟨rfl, rfl, rfl⟩)
set_option maxRecDepth 65536 in
set_option maxHeartbeats 40000000 in
theorem con_checkFromToIndex_11 (hw : Hw a0 Z) (G : Ow.Glo Z cz sf) {u0 u1 u2 : Nat} (GS : GlS Z u0 u1 u2) {pv0 : Value} {h0 : Heap} (O0 : Old Z n0 h0) (hv_pv0 : pv0.isRef = true) :
    Ow.Con l Z EL1 n0 my15 jdk_41_method_12_code 4 (Option.some Jvm.ClassFile.FieldType.int) [] ({ frames := 0, cells := 0, slots := 0, locals := 0 } : Room) #[(.int 0), (.int 1), (.int 1), pv0] [] h0 (fun v h S' => (v = some (.int 0) ∧ h = h0 ∧ S' = [])) := by
 rcases ref_cases hv_pv0 with rfl | ⟨sa_pv0, rfl⟩
 ·refine Ow.Con.enter (Ls := #[.val (.int 0), .val (.int 1), .val (.int 1), .val .null]) (plainFor_of_name pn7) O0 (hEW hw) (hSA hw) ?_
  intro p e s m below meth c B
  have z0 := Ow.old_le O0
  have lu0 : (u0 : Nat) < n0 := O0.1 ▸ GS.2.1.lt
  have lu1 : (u1 : Nat) < n0 := O0.1 ▸ GS.2.2.2.2.1.lt
  have lu2 : (u2 : Nat) < n0 := O0.1 ▸ GS.2.2.2.2.2.2.lt
  refine Ow.iloadN (pc' := 1) B e22_0 ?_
  refine Ow.ifF (pc' := 4) B e22_1 (by decide) ?_
  refine Ow.iloadN (pc' := 5) B e22_4 ?_
  refine Ow.iloadN (pc' := 6) B e22_5 ?_
  refine Ow.icmpF (pc' := 9) B e22_6 (by decide) ?_
  refine Ow.iloadN (pc' := 10) B e22_9 ?_
  refine Ow.iloadN (pc' := 11) B e22_10 ?_
  refine Ow.icmpT (pc' := 22) B e22_11 (by decide) ?_
  refine Ow.iloadN (pc' := 23) B e22_22 ?_
  exact Ow.retI (S' := []) (t := .int) B e22_23 (⟨rfl, rfl, rfl⟩)
 ·refine Ow.Con.enter (Ls := #[.val (.int 0), .val (.int 1), .val (.int 1), .val (.ref sa_pv0)]) (plainFor_of_name pn7) O0 (hEW hw) (hSA hw) ?_
  intro p e s m below meth c B
  have z0 := Ow.old_le O0
  have lu0 : (u0 : Nat) < n0 := O0.1 ▸ GS.2.1.lt
  have lu1 : (u1 : Nat) < n0 := O0.1 ▸ GS.2.2.2.2.1.lt
  have lu2 : (u2 : Nat) < n0 := O0.1 ▸ GS.2.2.2.2.2.2.lt
  refine Ow.iloadN (pc' := 1) B e22_0 ?_
  refine Ow.ifF (pc' := 4) B e22_1 (by decide) ?_
  refine Ow.iloadN (pc' := 5) B e22_4 ?_
  refine Ow.iloadN (pc' := 6) B e22_5 ?_
  refine Ow.icmpF (pc' := 9) B e22_6 (by decide) ?_
  refine Ow.iloadN (pc' := 10) B e22_9 ?_
  refine Ow.iloadN (pc' := 11) B e22_10 ?_
  refine Ow.icmpT (pc' := 22) B e22_11 (by decide) ?_
  refine Ow.iloadN (pc' := 23) B e22_22 ?_
  exact Ow.retI (S' := []) (t := .int) B e22_23 (⟨rfl, rfl, rfl⟩)
set_option maxRecDepth 65536 in
set_option maxHeartbeats 40000000 in
theorem con_checkBoundsBeginEnd_12 (hw : Hw a0 Z) (G : Ow.Glo Z cz sf) {u0 u1 u2 : Nat} (GS : GlS Z u0 u1 u2) {h0 : Heap} (O0 : Old Z n0 h0) :
    Ow.Con l Z EL1 n0 my16 jdk_42_method_158_code 3 (Option.none : Option Jvm.ClassFile.FieldType) [] ({ frames := 1, cells := 0, slots := 0, locals := 15 } : Room) #[(.int 0), (.int 1), (.int 1)] [] h0 (fun v h S' => (v = none ∧ h = h0 ∧ S' = [])) := by
 refine Ow.Con.enter (Ls := #[.val (.int 0), .val (.int 1), .val (.int 1)]) (plainFor_of_name pn1) O0 (hEW hw) (hSA hw) ?_
 intro p e s m below meth c B
 have z0 := Ow.old_le O0
 have lu0 : (u0 : Nat) < n0 := O0.1 ▸ GS.2.1.lt
 have lu1 : (u1 : Nat) < n0 := O0.1 ▸ GS.2.2.2.2.1.lt
 have lu2 : (u2 : Nat) < n0 := O0.1 ▸ GS.2.2.2.2.2.2.lt
 refine Ow.iloadN (pc' := 1) B e21_0 ?_
 refine Ow.iloadN (pc' := 2) B e21_1 ?_
 refine Ow.iloadN (pc' := 3) B e21_2 ?_
 refine Ow.getstatic (pc' := 6) B e21_3 (w132 hw) Via.refl G.2.2.1 ?_
 refine Ow.Go.old (fun o1 => ?_)
 refine Ow.callStatic (pc' := 9) (W := 0) (k' := 0) (n' := 0) (argsL := [(.int 0), (.int 1), (.int 1), sf]) (rest := []) B e21_6 (w134 hw) (w135 hw) (w133 hw) (w136 hw) (con_checkFromToIndex_11 hw G GS (pv0 := sf) o1 (G.2.2.2)) pd13 ?_
 intro vq2 h3 S4 q2 zh3
 obtain ⟨rfl, rfl, rfl⟩ := q2
 refine Ow.Go.nr (S' := []) (st' := [(.int 0)]) ?_
 refine Ow.pop (pc' := 10) B e21_9 ?_
 exact Ow.retV (S' := []) B e21_10 (⟨rfl, rfl, rfl⟩)
set_option maxRecDepth 65536 in
set_option maxHeartbeats 40000000 in
theorem con_substring_13 (hw : Hw a0 Z) (G : Ow.Glo Z cz sf) {u0 u1 u2 : Nat} (GS : GlS Z u0 u1 u2) {pa0 : Nat} {pa1 : Nat} {px0 : Int32} {pk0 : ClassId} {h0 : Heap} (O0 : Old Z n0 h0) (hf0 : Exa Z h0 pa0 "java/lang/String") (hf1 : Fld Z h0 pa0 "java/lang/String" "coder" "B" (.int 0)) (hf2 : Fld Z h0 pa0 "java/lang/String" "value" "[B" (.ref pa1)) (hf3 : Arv Z h0 pa1 pk0 .byte (1 : Int32) [(.int px0.toInt8.toInt32)] (.int 0)) :
    Ow.Con l Z EL1 n0 my17 jdk_42_method_92_code 5 (Option.some (Jvm.ClassFile.FieldType.object "java/lang/String")) [] ({ frames := 2, cells := 0, slots := 0, locals := 29 } : Room) #[(.ref pa0), (.int 0), (.int 1)] [pa0] h0 (fun v h S' => (v = some (.ref pa0) ∧ h = h0 ∧ S' = [])) := by
 refine Ow.Con.enter (Ls := #[.val (.ref pa0), .val (.int 0), .val (.int 1), .unset, .unset]) (plainFor_of_name pn1) O0 (hEW hw) (hSA hw) ?_
 intro p e s m below meth c B
 have z0 := Ow.old_le O0
 have lu0 : (u0 : Nat) < n0 := O0.1 ▸ GS.2.1.lt
 have lu1 : (u1 : Nat) < n0 := O0.1 ▸ GS.2.2.2.2.1.lt
 have lu2 : (u2 : Nat) < n0 := O0.1 ▸ GS.2.2.2.2.2.2.lt
 have lpa0 : (pa0 : Nat) < h0.size := hf0.lt
 have lpa1 : (pa1 : Nat) < h0.size := hf3.lt
 refine Ow.aloadN (pc' := 1) B e20_0 ?_
 refine Ow.Go.old (fun o1 => ?_)
 refine Ow.callVirtual (pc' := 4) (W := 0) (k' := 0) (n' := 0) (argsL := []) (rest := []) (K := "java/lang/String") B e20_1 (w104 hw) (w105 hw) (w107 hw) (w107 hw) (w106 hw) (w6 hw) (w108 hw) hf0 (con_length_4 hw G GS (pa0 := pa0) (pa1 := pa1) (px0 := px0) (pk0 := pk0) o1 hf0 hf1 hf2 hf3) pd9 ?_
 intro vq2 h3 S4 q2 zh3
 obtain ⟨rfl, rfl, rfl⟩ := q2
 refine Ow.Go.nr (S' := [pa0]) (st' := [(.int 1)]) ?_
 refine Ow.istoreN (pc' := 5) (Ls' := #[.val (.ref pa0), .val (.int 0), .val (.int 1), .val (.int 1), .unset]) B e20_4 ?_
 refine Ow.iloadN (pc' := 6) B e20_5 ?_
 refine Ow.iloadN (pc' := 7) B e20_6 ?_
 refine Ow.iloadN (pc' := 8) B e20_7 ?_
 refine Ow.Go.old (fun o5 => ?_)
 refine Ow.callStatic (pc' := 11) (W := 0) (k' := 0) (n' := 0) (argsL := [(.int 0), (.int 1), (.int 1)]) (rest := []) B e20_8 (w129 hw) (w130 hw) (w6 hw) (w131 hw) (con_checkBoundsBeginEnd_12 hw G GS o5) pd14 ?_
 intro vq6 h7 S8 q6 zh7
 obtain ⟨rfl, rfl, rfl⟩ := q6
 refine Ow.Go.nr (S' := [pa0]) (st' := []) ?_
 refine Ow.iloadN (pc' := 12) B e20_11 ?_
 refine Ow.ifF (pc' := 15) B e20_12 (by decide) ?_
 refine Ow.iloadN (pc' := 16) B e20_15 ?_
 refine Ow.iloadN (pc' := 17) B e20_16 ?_
 refine Ow.icmpF (pc' := 20) B e20_17 (by decide) ?_
 refine Ow.aloadN (pc' := 21) B e20_20 ?_
 exact Ow.retA (S' := []) (t := (.object "java/lang/String")) B e20_21 (⟨rfl, rfl, rfl⟩)
set_option maxRecDepth 65536 in
set_option maxHeartbeats 40000000 in
theorem con_name_14 (hw : Hw a0 Z) (G : Ow.Glo Z cz sf) {u0 u1 u2 : Nat} (GS : GlS Z u0 u1 u2) {pa0 : Nat} {pa1 : Nat} {px0 : Int32} {pk0 : ClassId} {h0 : Heap} (O0 : Old Z n0 h0) (hf0 : Exa Z h0 pa0 "java/lang/String") (hf1 : Fld Z h0 pa0 "java/lang/String" "coder" "B" (.int 0)) (hf2 : Fld Z h0 pa0 "java/lang/String" "value" "[B" (.ref pa1)) (hf3 : Arv Z h0 pa1 pk0 .byte (1 : Int32) [(.int px0.toInt8.toInt32)] (.int 0)) (hk0 : alP px0) :
    Ow.Con l Z EL1 n0 my18 prog_31_method_4_code 3 (Option.some (Jvm.ClassFile.FieldType.object "java/lang/String")) [] ({ frames := 4, cells := 4, slots := 16, locals := 59 } : Room) #[(.ref pa0)] [pa0] h0 (fun v h S' => (v = some (.ref pa0) ∧ Keep h0 h [] ∧ S' = [])) := by
 refine Ow.Con.enter (Ls := #[.val (.ref pa0), .unset, .unset]) (plainFor_of_name pn4) O0 (hEW hw) (hSA hw) ?_
 intro p e s m below meth c B
 have z0 := Ow.old_le O0
 have lu0 : (u0 : Nat) < n0 := O0.1 ▸ GS.2.1.lt
 have lu1 : (u1 : Nat) < n0 := O0.1 ▸ GS.2.2.2.2.1.lt
 have lu2 : (u2 : Nat) < n0 := O0.1 ▸ GS.2.2.2.2.2.2.lt
 have lpa0 : (pa0 : Nat) < h0.size := hf0.lt
 have lpa1 : (pa1 : Nat) < h0.size := hf3.lt
 refine Ow.aloadN (pc' := 1) B e13_0 ?_
 refine Ow.ldcText (pc' := 3) (k' := 2) (n' := 8) (nn := 4) (vs := [(.int 47)]) (z := 1) B e13_1 (w78 hw) (by decide) ⟨by decide, by decide⟩ (by decide) (by decide) ?_
 intro h2 a1 t3 kt3 Kh2 Ea1 Ca1 Va1 At3 Na1
 have zh2 := Kh2.1
 have la1 : (a1 : Nat) < h2.size := Ea1.lt
 have lt3 : (t3 : Nat) < h2.size := At3.lt
 have n4 : (pa0 : Nat) ≠ a1 ∧ (pa0 : Nat) ≠ t3 := Na1 pa0 (by simp)
 refine Ow.Go.old (fun o5 => ?_)
 have f6 := hf0.keep Kh2
 have f7 := hf1.keep Kh2 Ow.nin0
 have f8 := hf2.keep Kh2 Ow.nin0
 have f9 := hf3.keep Kh2 Ow.nin0
 refine Ow.callVirtual (pc' := 6) (W := 0) (k' := 2) (n' := 8) (argsL := [(.ref a1)]) (rest := []) (K := "java/lang/String") B e13_3 (w94 hw) (w95 hw) (w97 hw) (w97 hw) (w96 hw) (w6 hw) (w98 hw) f6 (con_startsWith_9 hw G GS (pa0 := pa0) (pa1 := a1) (pa2 := pa1) (pa3 := t3) (px0 := px0) (pk0 := pk0) (pk1 := kt3) o5 f6 f7 f8 Ea1 Ca1 Va1 f9 At3 (hk0)) pd12 ?_
 intro vq10 h11 S12 q10 zh11
 obtain ⟨rfl, rfl, rfl⟩ := q10
 refine Ow.Go.nr (S' := [pa0]) (st' := [(.int 0)]) ?_
 refine Ow.ifT (pc' := 13) B e13_6 (by decide) ?_
 refine Ow.iconst (pc' := 14) (x := 0) B e13_13 ?_
 refine Ow.istoreN (pc' := 15) (Ls' := #[.val (.ref pa0), .val (.int 0), .unset]) B e13_14 ?_
 refine Ow.aloadN (pc' := 16) B e13_15 ?_
 refine Ow.ldcText (pc' := 18) (k' := 4) (n' := 16) (nn := 4) (vs := [(.int 47)]) (z := 1) B e13_16 (w78 hw) (by decide) ⟨by decide, by decide⟩ (by decide) (by decide) ?_
 intro h14 a13 t15 kt15 Kh14 Ea13 Ca13 Va13 At15 Na13
 have zh14 := Kh14.1
 have la13 : (a13 : Nat) < h14.size := Ea13.lt
 have lt15 : (t15 : Nat) < h14.size := At15.lt
 have n16 : (pa0 : Nat) ≠ a13 ∧ (pa0 : Nat) ≠ t15 := Na13 pa0 (by simp)
 refine Ow.Go.old (fun o17 => ?_)
 have f18 := f6.keep Kh14
 have f19 := f7.keep Kh14 Ow.nin0
 have f20 := f8.keep Kh14 Ow.nin0
 have f21 := f9.keep Kh14 Ow.nin0
 refine Ow.callVirtual (pc' := 21) (W := 0) (k' := 4) (n' := 16) (argsL := [(.ref a13)]) (rest := []) (K := "java/lang/String") B e13_18 (w118 hw) (w119 hw) (w121 hw) (w121 hw) (w120 hw) (w6 hw) (w122 hw) f18 (con_endsWith_10 hw G GS (pa0 := pa0) (pa1 := a13) (pa2 := pa1) (pa3 := t15) (px0 := px0) (pk0 := pk0) (pk1 := kt15) o17 f18 f19 f20 Ea13 Ca13 Va13 f21 At15 (hk0)) pd12 ?_
 intro vq22 h23 S24 q22 zh23
 obtain ⟨rfl, rfl, rfl⟩ := q22
 refine Ow.Go.nr (S' := [pa0]) (st' := [(.int 0)]) ?_
 refine Ow.ifT (pc' := 33) B e13_21 (by decide) ?_
 refine Ow.aloadN (pc' := 34) B e13_33 ?_
 refine Ow.Go.old (fun o25 => ?_)
 refine Ow.callVirtual (pc' := 37) (W := 0) (k' := 4) (n' := 16) (argsL := []) (rest := []) (K := "java/lang/String") B e13_34 (w123 hw) (w105 hw) (w107 hw) (w107 hw) (w106 hw) (w6 hw) (w108 hw) f18 (con_length_4 hw G GS (pa0 := pa0) (pa1 := pa1) (px0 := px0) (pk0 := pk0) o25 f18 f19 f20 f21) pd9 ?_
 intro vq26 h27 S28 q26 zh27
 obtain ⟨rfl, rfl, rfl⟩ := q26
 refine Ow.Go.nr (S' := [pa0]) (st' := [(.int 1)]) ?_
 refine Ow.istoreN (pc' := 38) (Ls' := #[.val (.ref pa0), .val (.int 0), .val (.int 1)]) B e13_37 ?_
 refine Ow.aloadN (pc' := 39) B e13_38 ?_
 refine Ow.iloadN (pc' := 40) B e13_39 ?_
 refine Ow.iloadN (pc' := 41) B e13_40 ?_
 refine Ow.Go.old (fun o29 => ?_)
 refine Ow.callVirtual (pc' := 44) (W := 0) (k' := 4) (n' := 16) (argsL := [(.int 0), (.int 1)]) (rest := []) (K := "java/lang/String") B e13_41 (w124 hw) (w125 hw) (w127 hw) (w127 hw) (w126 hw) (w6 hw) (w128 hw) f18 (con_substring_13 hw G GS (pa0 := pa0) (pa1 := pa1) (px0 := px0) (pk0 := pk0) o29 f18 f19 f20 f21) pd15 ?_
 intro vq30 h31 S32 q30 zh31
 obtain ⟨rfl, rfl, rfl⟩ := q30
 refine Ow.Go.nr (S' := [pa0]) (st' := [(.ref pa0)]) ?_
 exact Ow.retA (S' := []) (t := (.object "java/lang/String")) B e13_44 (⟨rfl, (((Keep.refl _ []).trans Kh2 (fun _ q => nomatch q)).trans Kh14 (fun _ q => nomatch q)), rfl⟩)
set_option maxRecDepth 65536 in
set_option maxHeartbeats 40000000 in
theorem con_isLatin1_15 (hw : Hw a0 Z) (G : Ow.Glo Z cz sf) {u0 u1 u2 : Nat} (GS : GlS Z u0 u1 u2) {pa0 : Nat} {h0 : Heap} (O0 : Old Z n0 h0) (hf0 : Fld Z h0 pa0 "java/lang/String" "coder" "B" (.int 0)) :
    Ow.Con l Z EL1 n0 my19 jdk_42_method_154_code 1 (Option.some Jvm.ClassFile.FieldType.boolean) [] ({ frames := 0, cells := 0, slots := 0, locals := 0 } : Room) #[(.ref pa0)] [] h0 (fun v h S' => (v = some (.int 1) ∧ h = h0 ∧ S' = [])) := by
 refine Ow.Con.enter (Ls := #[.val (.ref pa0)]) (plainFor_of_name pn1) O0 (hEW hw) (hSA hw) ?_
 intro p e s m below meth c B
 have z0 := Ow.old_le O0
 have lu0 : (u0 : Nat) < n0 := O0.1 ▸ GS.2.1.lt
 have lu1 : (u1 : Nat) < n0 := O0.1 ▸ GS.2.2.2.2.1.lt
 have lu2 : (u2 : Nat) < n0 := O0.1 ▸ GS.2.2.2.2.2.2.lt
 have lpa0 : (pa0 : Nat) < h0.size := hf0.lt
 refine Ow.getstatic (pc' := 3) B e26_0 (w21 hw) Via.refl G.1 ?_
 refine Ow.ifF (pc' := 6) B e26_3 (feq (G.2.1)).1 ?_
 refine Ow.aloadN (pc' := 7) B e26_6 ?_
 refine Ow.getfield (pc' := 10) B e26_7 (w33 hw) Via.refl hf0 ?_
 refine Ow.ifF (pc' := 13) B e26_10 (by decide) ?_
 refine Ow.iconst (pc' := 14) (x := 1) B e26_13 ?_
 refine Ow.goto (pc' := 18) B e26_14 ?_
 exact Ow.retI (S' := []) (t := .boolean) B e26_18 (⟨rfl, rfl, rfl⟩)
set_option maxRecDepth 65536 in
set_option maxHeartbeats 40000000 in
theorem con_checkIndex_16 (hw : Hw a0 Z) (G : Ow.Glo Z cz sf) {u0 u1 u2 : Nat} (GS : GlS Z u0 u1 u2) {px0 : Int32} {px1 : Int32} {pv0 : Value} {h0 : Heap} (O0 : Old Z n0 h0) (hk0 : ¬ (px0 < (0 : Int32))) (hk1 : px0 < px1) (hv_pv0 : pv0.isRef = true) :
    Ow.Con l Z EL1 n0 my20 jdk_41_method_11_code 3 (Option.some Jvm.ClassFile.FieldType.int) [] ({ frames := 0, cells := 0, slots := 0, locals := 0 } : Room) #[(.int px0), (.int px1), pv0] [] h0 (fun v h S' => (v = some (.int px0) ∧ h = h0 ∧ S' = [])) := by
 rcases ref_cases hv_pv0 with rfl | ⟨sa_pv0, rfl⟩
 ·refine Ow.Con.enter (Ls := #[.val (.int px0), .val (.int px1), .val .null]) (plainFor_of_name pn7) O0 (hEW hw) (hSA hw) ?_
  intro p e s m below meth c B
  have z0 := Ow.old_le O0
  have lu0 : (u0 : Nat) < n0 := O0.1 ▸ GS.2.1.lt
  have lu1 : (u1 : Nat) < n0 := O0.1 ▸ GS.2.2.2.2.1.lt
  have lu2 : (u2 : Nat) < n0 := O0.1 ▸ GS.2.2.2.2.2.2.lt
  refine Ow.iloadN (pc' := 1) B e29_0 ?_
  refine Ow.ifF (pc' := 4) B e29_1 (flt (hk0)).1 ?_
  refine Ow.iloadN (pc' := 5) B e29_4 ?_
  refine Ow.iloadN (pc' := 6) B e29_5 ?_
  refine Ow.icmpT (pc' := 16) B e29_6 (tlt (hk1)).1 ?_
  refine Ow.iloadN (pc' := 17) B e29_16 ?_
  exact Ow.retI (S' := []) (t := .int) B e29_17 (⟨rfl, rfl, rfl⟩)
 ·refine Ow.Con.enter (Ls := #[.val (.int px0), .val (.int px1), .val (.ref sa_pv0)]) (plainFor_of_name pn7) O0 (hEW hw) (hSA hw) ?_
  intro p e s m below meth c B
  have z0 := Ow.old_le O0
  have lu0 : (u0 : Nat) < n0 := O0.1 ▸ GS.2.1.lt
  have lu1 : (u1 : Nat) < n0 := O0.1 ▸ GS.2.2.2.2.1.lt
  have lu2 : (u2 : Nat) < n0 := O0.1 ▸ GS.2.2.2.2.2.2.lt
  refine Ow.iloadN (pc' := 1) B e29_0 ?_
  refine Ow.ifF (pc' := 4) B e29_1 (flt (hk0)).1 ?_
  refine Ow.iloadN (pc' := 5) B e29_4 ?_
  refine Ow.iloadN (pc' := 6) B e29_5 ?_
  refine Ow.icmpT (pc' := 16) B e29_6 (tlt (hk1)).1 ?_
  refine Ow.iloadN (pc' := 17) B e29_16 ?_
  exact Ow.retI (S' := []) (t := .int) B e29_17 (⟨rfl, rfl, rfl⟩)
set_option maxRecDepth 65536 in
set_option maxHeartbeats 40000000 in
theorem con_checkIndex_17 (hw : Hw a0 Z) (G : Ow.Glo Z cz sf) {u0 u1 u2 : Nat} (GS : GlS Z u0 u1 u2) {px0 : Int32} {px1 : Int32} {h0 : Heap} (O0 : Old Z n0 h0) (hk0 : ¬ (px0 < (0 : Int32))) (hk1 : px0 < px1) :
    Ow.Con l Z EL1 n0 my21 jdk_42_method_155_code 2 (Option.none : Option Jvm.ClassFile.FieldType) [] ({ frames := 1, cells := 0, slots := 0, locals := 14 } : Room) #[(.int px0), (.int px1)] [] h0 (fun v h S' => (v = none ∧ h = h0 ∧ S' = [])) := by
 refine Ow.Con.enter (Ls := #[.val (.int px0), .val (.int px1)]) (plainFor_of_name pn1) O0 (hEW hw) (hSA hw) ?_
 intro p e s m below meth c B
 have z0 := Ow.old_le O0
 have lu0 : (u0 : Nat) < n0 := O0.1 ▸ GS.2.1.lt
 have lu1 : (u1 : Nat) < n0 := O0.1 ▸ GS.2.2.2.2.1.lt
 have lu2 : (u2 : Nat) < n0 := O0.1 ▸ GS.2.2.2.2.2.2.lt
 refine Ow.iloadN (pc' := 1) B e28_0 ?_
 refine Ow.iloadN (pc' := 2) B e28_1 ?_
 refine Ow.getstatic (pc' := 5) B e28_2 (w132 hw) Via.refl G.2.2.1 ?_
 refine Ow.Go.old (fun o1 => ?_)
 refine Ow.callStatic (pc' := 8) (W := 0) (k' := 0) (n' := 0) (argsL := [(.int px0), (.int px1), sf]) (rest := []) B e28_5 (w164 hw) (w165 hw) (w133 hw) (w166 hw) (con_checkIndex_16 hw G GS (px0 := px0) (px1 := px1) (pv0 := sf) o1 (hk0) (hk1) (G.2.2.2)) pd18 ?_
 intro vq2 h3 S4 q2 zh3
 obtain ⟨rfl, rfl, rfl⟩ := q2
 refine Ow.Go.nr (S' := []) (st' := [(.int px0)]) ?_
 refine Ow.pop (pc' := 9) B e28_8 ?_
 exact Ow.retV (S' := []) B e28_9 (⟨rfl, rfl, rfl⟩)
set_option maxRecDepth 65536 in
set_option maxHeartbeats 40000000 in
theorem con_charAt_18 (hw : Hw a0 Z) (G : Ow.Glo Z cz sf) {u0 u1 u2 : Nat} (GS : GlS Z u0 u1 u2) {pa0 : Nat} {pk0 : ClassId} {h0 : Heap} (O0 : Old Z n0 h0) (hf0 : Arv Z h0 pa0 pk0 .byte (1 : Int32) [(.int 47)] (.int 0)) :
    Ow.Con l Z EL1 n0 my22 jdk_43_method_2_code 2 (Option.some Jvm.ClassFile.FieldType.char) [] ({ frames := 2, cells := 0, slots := 0, locals := 27 } : Room) #[(.ref pa0), (.int 0)] [] h0 (fun v h S' => (v = some (.int 47) ∧ h = h0 ∧ S' = [])) := by
 refine Ow.Con.enter (Ls := #[.val (.ref pa0), .val (.int 0)]) (plainFor_of_name pn5) O0 (hEW hw) (hSA hw) ?_
 intro p e s m below meth c B
 have z0 := Ow.old_le O0
 have lu0 : (u0 : Nat) < n0 := O0.1 ▸ GS.2.1.lt
 have lu1 : (u1 : Nat) < n0 := O0.1 ▸ GS.2.2.2.2.1.lt
 have lu2 : (u2 : Nat) < n0 := O0.1 ▸ GS.2.2.2.2.2.2.lt
 have lpa0 : (pa0 : Nat) < h0.size := hf0.lt
 refine Ow.iloadN (pc' := 1) B e27_0 ?_
 refine Ow.aloadN (pc' := 2) B e27_1 ?_
 refine Ow.arrlen (pc' := 3) B e27_2 hf0 ?_
 refine Ow.Go.old (fun o1 => ?_)
 refine Ow.callStatic (pc' := 6) (W := 0) (k' := 0) (n' := 0) (argsL := [(.int 0), (.int 1)]) (rest := []) B e27_3 (w161 hw) (w162 hw) (w6 hw) (w163 hw) (con_checkIndex_17 hw G GS (px0 := (0 : Int32)) (px1 := (1 : Int32)) o1 (by decide) (by decide)) pd19 ?_
 intro vq2 h3 S4 q2 zh3
 obtain ⟨rfl, rfl, rfl⟩ := q2
 refine Ow.Go.nr (S' := []) (st' := []) ?_
 refine Ow.aloadN (pc' := 7) B e27_6 ?_
 refine Ow.iloadN (pc' := 8) B e27_7 ?_
 refine Ow.baload (pc' := 9) B e27_8 hf0 ⟨by decide, by decide⟩ rfl ?_
 refine Ow.sipush (pc' := 12) (x := 255) B e27_9 ?_
 refine Ow.iand (pc' := 13) (z := 47) B e27_12 ?_
 refine Ow.i2c (pc' := 14) (z := 47) B e27_13 ?_
 exact Ow.retI (S' := []) (t := .char) B e27_14 (⟨rfl, rfl, rfl⟩)
set_option maxRecDepth 65536 in
set_option maxHeartbeats 40000000 in
theorem con_charAt_19 (hw : Hw a0 Z) (G : Ow.Glo Z cz sf) {u0 u1 u2 : Nat} (GS : GlS Z u0 u1 u2) {pa0 : Nat} {pa1 : Nat} {pk0 : ClassId} {h0 : Heap} (O0 : Old Z n0 h0) (hf0 : Exa Z h0 pa0 "java/lang/String") (hf1 : Fld Z h0 pa0 "java/lang/String" "coder" "B" (.int 0)) (hf2 : Fld Z h0 pa0 "java/lang/String" "value" "[B" (.ref pa1)) (hf3 : Arv Z h0 pa1 pk0 .byte (1 : Int32) [(.int 47)] (.int 0)) :
    Ow.Con l Z EL1 n0 my23 jdk_42_method_56_code 2 (Option.some Jvm.ClassFile.FieldType.char) [] ({ frames := 3, cells := 0, slots := 0, locals := 40 } : Room) #[(.ref pa0), (.int 0)] [] h0 (fun v h S' => (v = some (.int 47) ∧ h = h0 ∧ S' = [])) := by
 refine Ow.Con.enter (Ls := #[.val (.ref pa0), .val (.int 0)]) (plainFor_of_name pn1) O0 (hEW hw) (hSA hw) ?_
 intro p e s m below meth c B
 have z0 := Ow.old_le O0
 have lu0 : (u0 : Nat) < n0 := O0.1 ▸ GS.2.1.lt
 have lu1 : (u1 : Nat) < n0 := O0.1 ▸ GS.2.2.2.2.1.lt
 have lu2 : (u2 : Nat) < n0 := O0.1 ▸ GS.2.2.2.2.2.2.lt
 have lpa0 : (pa0 : Nat) < h0.size := hf0.lt
 have lpa1 : (pa1 : Nat) < h0.size := hf3.lt
 refine Ow.aloadN (pc' := 1) B e25_0 ?_
 refine Ow.Go.old (fun o1 => ?_)
 refine Ow.callVirtual (pc' := 4) (W := 0) (k' := 0) (n' := 0) (argsL := []) (rest := []) (K := "java/lang/String") B e25_1 (w153 hw) (w154 hw) (w156 hw) (w156 hw) (w155 hw) (w6 hw) (w157 hw) hf0 (con_isLatin1_15 hw G GS (pa0 := pa0) o1 hf1) pd17 ?_
 intro vq2 h3 S4 q2 zh3
 obtain ⟨rfl, rfl, rfl⟩ := q2
 refine Ow.Go.nr (S' := []) (st' := [(.int 1)]) ?_
 refine Ow.ifF (pc' := 7) B e25_4 (by decide) ?_
 refine Ow.aloadN (pc' := 8) B e25_7 ?_
 refine Ow.getfield (pc' := 11) B e25_8 (w35 hw) Via.refl hf2 ?_
 refine Ow.iloadN (pc' := 12) B e25_11 ?_
 refine Ow.Go.old (fun o5 => ?_)
 refine Ow.callStatic (pc' := 15) (W := 0) (k' := 0) (n' := 0) (argsL := [(.ref pa1), (.int 0)]) (rest := []) B e25_12 (w158 hw) (w159 hw) (w89 hw) (w160 hw) (con_charAt_18 hw G GS (pa0 := pa1) (pk0 := pk0) o5 hf3) pd20 ?_
 intro vq6 h7 S8 q6 zh7
 obtain ⟨rfl, rfl, rfl⟩ := q6
 refine Ow.Go.nr (S' := []) (st' := [(.int 47)]) ?_
 exact Ow.retI (S' := []) (t := .char) B e25_15 (⟨rfl, rfl, rfl⟩)
set_option maxRecDepth 65536 in
set_option maxHeartbeats 40000000 in
theorem con_length_20 (hw : Hw a0 Z) (G : Ow.Glo Z cz sf) {u0 u1 u2 : Nat} (GS : GlS Z u0 u1 u2) {pa0 : Nat} {pa1 : Nat} {pk0 : ClassId} {h0 : Heap} (O0 : Old Z n0 h0) (hf0 : Exa Z h0 pa0 "java/lang/String") (hf1 : Fld Z h0 pa0 "java/lang/String" "coder" "B" (.int 0)) (hf2 : Fld Z h0 pa0 "java/lang/String" "value" "[B" (.ref pa1)) (hf3 : Arv Z h0 pa1 pk0 .byte (12 : Int32) [(.int 46), (.int 36), (.int 124), (.int 40), (.int 41), (.int 91), (.int 123), (.int 94), (.int 63), (.int 42), (.int 43), (.int 92)] (.int 0)) :
    Ow.Con l Z EL1 n0 my10 jdk_42_method_54_code 1 (Option.some Jvm.ClassFile.FieldType.int) [] ({ frames := 1, cells := 0, slots := 0, locals := 13 } : Room) #[(.ref pa0)] [] h0 (fun v h S' => (v = some (.int 12) ∧ h = h0 ∧ S' = [])) := by
 refine Ow.Con.enter (Ls := #[.val (.ref pa0)]) (plainFor_of_name pn1) O0 (hEW hw) (hSA hw) ?_
 intro p e s m below meth c B
 have z0 := Ow.old_le O0
 have lu0 : (u0 : Nat) < n0 := O0.1 ▸ GS.2.1.lt
 have lu1 : (u1 : Nat) < n0 := O0.1 ▸ GS.2.2.2.2.1.lt
 have lu2 : (u2 : Nat) < n0 := O0.1 ▸ GS.2.2.2.2.2.2.lt
 have lpa0 : (pa0 : Nat) < h0.size := hf0.lt
 have lpa1 : (pa1 : Nat) < h0.size := hf3.lt
 refine Ow.aloadN (pc' := 1) B e16_0 ?_
 refine Ow.getfield (pc' := 4) B e16_1 (w35 hw) Via.refl hf2 ?_
 refine Ow.arrlen (pc' := 5) B e16_4 hf3 ?_
 refine Ow.aloadN (pc' := 6) B e16_5 ?_
 refine Ow.Go.old (fun o1 => ?_)
 refine Ow.callVirtual (pc' := 9) (W := 1) (k' := 0) (n' := 0) (argsL := []) (rest := [(.int 12)]) (K := "java/lang/String") B e16_6 (w109 hw) (w110 hw) (w112 hw) (w112 hw) (w111 hw) (w6 hw) (w113 hw) hf0 (con_coder_5 hw G GS (pa0 := pa0) o1 hf1) pd8 ?_
 intro vq2 h3 S4 q2 zh3
 obtain ⟨rfl, rfl, rfl⟩ := q2
 refine Ow.Go.nr (S' := []) (st' := [(.int 0), (.int 12)]) ?_
 refine Ow.ishr (pc' := 10) (z := 12) B e16_9 ?_
 exact Ow.retI (S' := []) (t := .int) B e16_10 (⟨rfl, rfl, rfl⟩)
set_option maxRecDepth 65536 in
set_option maxHeartbeats 40000000 in
theorem con_canEncode_21 (hw : Hw a0 Z) (G : Ow.Glo Z cz sf) {u0 u1 u2 : Nat} (GS : GlS Z u0 u1 u2) {h0 : Heap} (O0 : Old Z n0 h0) :
    Ow.Con l Z EL1 n0 my24 jdk_43_method_4_code 1 (Option.some Jvm.ClassFile.FieldType.boolean) [] ({ frames := 0, cells := 0, slots := 0, locals := 0 } : Room) #[(.int 47)] [] h0 (fun v h S' => (v = some (.int 1) ∧ h = h0 ∧ S' = [])) := by
 refine Ow.Con.enter (Ls := #[.val (.int 47)]) (plainFor_of_name pn5) O0 (hEW hw) (hSA hw) ?_
 intro p e s m below meth c B
 have z0 := Ow.old_le O0
 have lu0 : (u0 : Nat) < n0 := O0.1 ▸ GS.2.1.lt
 have lu1 : (u1 : Nat) < n0 := O0.1 ▸ GS.2.2.2.2.1.lt
 have lu2 : (u2 : Nat) < n0 := O0.1 ▸ GS.2.2.2.2.2.2.lt
 refine Ow.iloadN (pc' := 1) B e33_0 ?_
 refine Ow.ifF (pc' := 4) B e33_1 (by decide) ?_
 refine Ow.iloadN (pc' := 5) B e33_4 ?_
 refine Ow.sipush (pc' := 8) (x := 255) B e33_5 ?_
 refine Ow.icmpF (pc' := 11) B e33_8 (by decide) ?_
 refine Ow.iconst (pc' := 12) (x := 1) B e33_11 ?_
 refine Ow.goto (pc' := 16) B e33_12 ?_
 exact Ow.retI (S' := []) (t := .boolean) B e33_16 (⟨rfl, rfl, rfl⟩)
set_option maxRecDepth 65536 in
set_option maxHeartbeats 40000000 in
theorem con_max_22 (hw : Hw a0 Z) (G : Ow.Glo Z cz sf) {u0 u1 u2 : Nat} (GS : GlS Z u0 u1 u2) {h0 : Heap} (O0 : Old Z n0 h0) :
    Ow.Con l Z EL1 n0 my25 jdk_29_method_65_code 2 (Option.some Jvm.ClassFile.FieldType.int) [] ({ frames := 0, cells := 0, slots := 0, locals := 0 } : Room) #[(.int 0), (.int 0)] [] h0 (fun v h S' => (v = some (.int 0) ∧ h = h0 ∧ S' = [])) := by
 refine Ow.Con.enter (Ls := #[.val (.int 0), .val (.int 0)]) (by decide +kernel) O0 (hEW hw) (hSA hw) ?_
 intro p e s m below meth c B
 have z0 := Ow.old_le O0
 have lu0 : (u0 : Nat) < n0 := O0.1 ▸ GS.2.1.lt
 have lu1 : (u1 : Nat) < n0 := O0.1 ▸ GS.2.2.2.2.1.lt
 have lu2 : (u2 : Nat) < n0 := O0.1 ▸ GS.2.2.2.2.2.2.lt
 refine Ow.iloadN (pc' := 1) B e34_0 ?_
 refine Ow.iloadN (pc' := 2) B e34_1 ?_
 refine Ow.icmpF (pc' := 5) B e34_2 (by decide) ?_
 refine Ow.iloadN (pc' := 6) B e34_5 ?_
 refine Ow.goto (pc' := 10) B e34_6 ?_
 exact Ow.retI (S' := []) (t := .int) B e34_10 (⟨rfl, rfl, rfl⟩)
set_option maxRecDepth 65536 in
set_option maxHeartbeats 40000000 in
theorem con_min_23 (hw : Hw a0 Z) (G : Ow.Glo Z cz sf) {u0 u1 u2 : Nat} (GS : GlS Z u0 u1 u2) {h0 : Heap} (O0 : Old Z n0 h0) :
    Ow.Con l Z EL1 n0 my26 jdk_29_method_69_code 2 (Option.some Jvm.ClassFile.FieldType.int) [] ({ frames := 0, cells := 0, slots := 0, locals := 0 } : Room) #[(.int 12), (.int 12)] [] h0 (fun v h S' => (v = some (.int 12) ∧ h = h0 ∧ S' = [])) := by
 refine Ow.Con.enter (Ls := #[.val (.int 12), .val (.int 12)]) (by decide +kernel) O0 (hEW hw) (hSA hw) ?_
 intro p e s m below meth c B
 have z0 := Ow.old_le O0
 have lu0 : (u0 : Nat) < n0 := O0.1 ▸ GS.2.1.lt
 have lu1 : (u1 : Nat) < n0 := O0.1 ▸ GS.2.2.2.2.1.lt
 have lu2 : (u2 : Nat) < n0 := O0.1 ▸ GS.2.2.2.2.2.2.lt
 refine Ow.iloadN (pc' := 1) B e35_0 ?_
 refine Ow.iloadN (pc' := 2) B e35_1 ?_
 refine Ow.icmpF (pc' := 5) B e35_2 (by decide) ?_
 refine Ow.iloadN (pc' := 6) B e35_5 ?_
 refine Ow.goto (pc' := 10) B e35_6 ?_
 exact Ow.retI (S' := []) (t := .int) B e35_10 (⟨rfl, rfl, rfl⟩)
set_option maxRecDepth 65536 in
set_option maxHeartbeats 40000000 in
theorem con_indexOfChar_24 (hw : Hw a0 Z) (G : Ow.Glo Z cz sf) {u0 u1 u2 : Nat} (GS : GlS Z u0 u1 u2) {pa0 : Nat} {pk0 : ClassId} {h0 : Heap} (O0 : Old Z n0 h0) (hf0 : Arv Z h0 pa0 pk0 .byte (12 : Int32) [(.int 46), (.int 36), (.int 124), (.int 40), (.int 41), (.int 91), (.int 123), (.int 94), (.int 63), (.int 42), (.int 43), (.int 92)] (.int 0)) :
    Ow.Con l Z EL1 n0 my27 jdk_43_method_23_code 6 (Option.some Jvm.ClassFile.FieldType.int) [] ({ frames := 0, cells := 0, slots := 0, locals := 0 } : Room) #[(.ref pa0), (.int 47), (.int 0), (.int 12)] [] h0 (fun v h S' => (v = some (.int (-1)) ∧ h = h0 ∧ S' = [])) := by
 refine Ow.Con.enter (Ls := #[.val (.ref pa0), .val (.int 47), .val (.int 0), .val (.int 12), .unset, .unset]) (plainFor_of_name pn5) O0 (hEW hw) (hSA hw) ?_
 intro p e s m below meth c B
 have z0 := Ow.old_le O0
 have lu0 : (u0 : Nat) < n0 := O0.1 ▸ GS.2.1.lt
 have lu1 : (u1 : Nat) < n0 := O0.1 ▸ GS.2.2.2.2.1.lt
 have lu2 : (u2 : Nat) < n0 := O0.1 ▸ GS.2.2.2.2.2.2.lt
 have lpa0 : (pa0 : Nat) < h0.size := hf0.lt
 refine Ow.iloadN (pc' := 1) B e36_0 ?_
 refine Ow.i2b (pc' := 2) (z := 47) B e36_1 ?_
 refine Ow.istore (pc' := 4) (Ls' := #[.val (.ref pa0), .val (.int 47), .val (.int 0), .val (.int 12), .val (.int 47), .unset]) B e36_2 ?_
 refine Ow.iloadN (pc' := 5) B e36_4 ?_
 refine Ow.istore (pc' := 7) (Ls' := #[.val (.ref pa0), .val (.int 47), .val (.int 0), .val (.int 12), .val (.int 47), .val (.int 0)]) B e36_5 ?_
 refine Ow.iload (pc' := 9) B e36_7 ?_
 refine Ow.iloadN (pc' := 10) B e36_9 ?_
 refine Ow.icmpF (pc' := 13) B e36_10 (by decide) ?_
 refine Ow.aloadN (pc' := 14) B e36_13 ?_
 refine Ow.iload (pc' := 16) B e36_14 ?_
 refine Ow.baload (pc' := 17) B e36_16 hf0 ⟨by decide, by decide⟩ rfl ?_
 refine Ow.iload (pc' := 19) B e36_17 ?_
 refine Ow.icmpT (pc' := 25) B e36_19 (by decide) ?_
 refine Ow.iinc (pc' := 28) (y := 1) (Ls' := #[.val (.ref pa0), .val (.int 47), .val (.int 0), .val (.int 12), .val (.int 47), .val (.int 1)]) B e36_25 ?_
 refine Ow.goto (pc' := 7) B e36_28 ?_
 refine Ow.iload (pc' := 9) B e36_7 ?_
 refine Ow.iloadN (pc' := 10) B e36_9 ?_
 refine Ow.icmpF (pc' := 13) B e36_10 (by decide) ?_
 refine Ow.aloadN (pc' := 14) B e36_13 ?_
 refine Ow.iload (pc' := 16) B e36_14 ?_
 refine Ow.baload (pc' := 17) B e36_16 hf0 ⟨by decide, by decide⟩ rfl ?_
 refine Ow.iload (pc' := 19) B e36_17 ?_
 refine Ow.icmpT (pc' := 25) B e36_19 (by decide) ?_
 refine Ow.iinc (pc' := 28) (y := 2) (Ls' := #[.val (.ref pa0), .val (.int 47), .val (.int 0), .val (.int 12), .val (.int 47), .val (.int 2)]) B e36_25 ?_
 refine Ow.goto (pc' := 7) B e36_28 ?_
 refine Ow.iload (pc' := 9) B e36_7 ?_
 refine Ow.iloadN (pc' := 10) B e36_9 ?_
 refine Ow.icmpF (pc' := 13) B e36_10 (by decide) ?_
 refine Ow.aloadN (pc' := 14) B e36_13 ?_
 refine Ow.iload (pc' := 16) B e36_14 ?_
 refine Ow.baload (pc' := 17) B e36_16 hf0 ⟨by decide, by decide⟩ rfl ?_
 refine Ow.iload (pc' := 19) B e36_17 ?_
 refine Ow.icmpT (pc' := 25) B e36_19 (by decide) ?_
 refine Ow.iinc (pc' := 28) (y := 3) (Ls' := #[.val (.ref pa0), .val (.int 47), .val (.int 0), .val (.int 12), .val (.int 47), .val (.int 3)]) B e36_25 ?_
 refine Ow.goto (pc' := 7) B e36_28 ?_
 refine Ow.iload (pc' := 9) B e36_7 ?_
 refine Ow.iloadN (pc' := 10) B e36_9 ?_
 refine Ow.icmpF (pc' := 13) B e36_10 (by decide) ?_
 refine Ow.aloadN (pc' := 14) B e36_13 ?_
 refine Ow.iload (pc' := 16) B e36_14 ?_
 refine Ow.baload (pc' := 17) B e36_16 hf0 ⟨by decide, by decide⟩ rfl ?_
 refine Ow.iload (pc' := 19) B e36_17 ?_
 refine Ow.icmpT (pc' := 25) B e36_19 (by decide) ?_
 refine Ow.iinc (pc' := 28) (y := 4) (Ls' := #[.val (.ref pa0), .val (.int 47), .val (.int 0), .val (.int 12), .val (.int 47), .val (.int 4)]) B e36_25 ?_
 refine Ow.goto (pc' := 7) B e36_28 ?_
 refine Ow.iload (pc' := 9) B e36_7 ?_
 refine Ow.iloadN (pc' := 10) B e36_9 ?_
 refine Ow.icmpF (pc' := 13) B e36_10 (by decide) ?_
 refine Ow.aloadN (pc' := 14) B e36_13 ?_
 refine Ow.iload (pc' := 16) B e36_14 ?_
 refine Ow.baload (pc' := 17) B e36_16 hf0 ⟨by decide, by decide⟩ rfl ?_
 refine Ow.iload (pc' := 19) B e36_17 ?_
 refine Ow.icmpT (pc' := 25) B e36_19 (by decide) ?_
 refine Ow.iinc (pc' := 28) (y := 5) (Ls' := #[.val (.ref pa0), .val (.int 47), .val (.int 0), .val (.int 12), .val (.int 47), .val (.int 5)]) B e36_25 ?_
 refine Ow.goto (pc' := 7) B e36_28 ?_
 refine Ow.iload (pc' := 9) B e36_7 ?_
 refine Ow.iloadN (pc' := 10) B e36_9 ?_
 refine Ow.icmpF (pc' := 13) B e36_10 (by decide) ?_
 refine Ow.aloadN (pc' := 14) B e36_13 ?_
 refine Ow.iload (pc' := 16) B e36_14 ?_
 refine Ow.baload (pc' := 17) B e36_16 hf0 ⟨by decide, by decide⟩ rfl ?_
 refine Ow.iload (pc' := 19) B e36_17 ?_
 refine Ow.icmpT (pc' := 25) B e36_19 (by decide) ?_
 refine Ow.iinc (pc' := 28) (y := 6) (Ls' := #[.val (.ref pa0), .val (.int 47), .val (.int 0), .val (.int 12), .val (.int 47), .val (.int 6)]) B e36_25 ?_
 refine Ow.goto (pc' := 7) B e36_28 ?_
 refine Ow.iload (pc' := 9) B e36_7 ?_
 refine Ow.iloadN (pc' := 10) B e36_9 ?_
 refine Ow.icmpF (pc' := 13) B e36_10 (by decide) ?_
 refine Ow.aloadN (pc' := 14) B e36_13 ?_
 refine Ow.iload (pc' := 16) B e36_14 ?_
 refine Ow.baload (pc' := 17) B e36_16 hf0 ⟨by decide, by decide⟩ rfl ?_
 refine Ow.iload (pc' := 19) B e36_17 ?_
 refine Ow.icmpT (pc' := 25) B e36_19 (by decide) ?_
 refine Ow.iinc (pc' := 28) (y := 7) (Ls' := #[.val (.ref pa0), .val (.int 47), .val (.int 0), .val (.int 12), .val (.int 47), .val (.int 7)]) B e36_25 ?_
 refine Ow.goto (pc' := 7) B e36_28 ?_
 refine Ow.iload (pc' := 9) B e36_7 ?_
 refine Ow.iloadN (pc' := 10) B e36_9 ?_
 refine Ow.icmpF (pc' := 13) B e36_10 (by decide) ?_
 refine Ow.aloadN (pc' := 14) B e36_13 ?_
 refine Ow.iload (pc' := 16) B e36_14 ?_
 refine Ow.baload (pc' := 17) B e36_16 hf0 ⟨by decide, by decide⟩ rfl ?_
 refine Ow.iload (pc' := 19) B e36_17 ?_
 refine Ow.icmpT (pc' := 25) B e36_19 (by decide) ?_
 refine Ow.iinc (pc' := 28) (y := 8) (Ls' := #[.val (.ref pa0), .val (.int 47), .val (.int 0), .val (.int 12), .val (.int 47), .val (.int 8)]) B e36_25 ?_
 refine Ow.goto (pc' := 7) B e36_28 ?_
 refine Ow.iload (pc' := 9) B e36_7 ?_
 refine Ow.iloadN (pc' := 10) B e36_9 ?_
 refine Ow.icmpF (pc' := 13) B e36_10 (by decide) ?_
 refine Ow.aloadN (pc' := 14) B e36_13 ?_
 refine Ow.iload (pc' := 16) B e36_14 ?_
 refine Ow.baload (pc' := 17) B e36_16 hf0 ⟨by decide, by decide⟩ rfl ?_
 refine Ow.iload (pc' := 19) B e36_17 ?_
 refine Ow.icmpT (pc' := 25) B e36_19 (by decide) ?_
 refine Ow.iinc (pc' := 28) (y := 9) (Ls' := #[.val (.ref pa0), .val (.int 47), .val (.int 0), .val (.int 12), .val (.int 47), .val (.int 9)]) B e36_25 ?_
 refine Ow.goto (pc' := 7) B e36_28 ?_
 refine Ow.iload (pc' := 9) B e36_7 ?_
 refine Ow.iloadN (pc' := 10) B e36_9 ?_
 refine Ow.icmpF (pc' := 13) B e36_10 (by decide) ?_
 refine Ow.aloadN (pc' := 14) B e36_13 ?_
 refine Ow.iload (pc' := 16) B e36_14 ?_
 refine Ow.baload (pc' := 17) B e36_16 hf0 ⟨by decide, by decide⟩ rfl ?_
 refine Ow.iload (pc' := 19) B e36_17 ?_
 refine Ow.icmpT (pc' := 25) B e36_19 (by decide) ?_
 refine Ow.iinc (pc' := 28) (y := 10) (Ls' := #[.val (.ref pa0), .val (.int 47), .val (.int 0), .val (.int 12), .val (.int 47), .val (.int 10)]) B e36_25 ?_
 refine Ow.goto (pc' := 7) B e36_28 ?_
 refine Ow.iload (pc' := 9) B e36_7 ?_
 refine Ow.iloadN (pc' := 10) B e36_9 ?_
 refine Ow.icmpF (pc' := 13) B e36_10 (by decide) ?_
 refine Ow.aloadN (pc' := 14) B e36_13 ?_
 refine Ow.iload (pc' := 16) B e36_14 ?_
 refine Ow.baload (pc' := 17) B e36_16 hf0 ⟨by decide, by decide⟩ rfl ?_
 refine Ow.iload (pc' := 19) B e36_17 ?_
 refine Ow.icmpT (pc' := 25) B e36_19 (by decide) ?_
 refine Ow.iinc (pc' := 28) (y := 11) (Ls' := #[.val (.ref pa0), .val (.int 47), .val (.int 0), .val (.int 12), .val (.int 47), .val (.int 11)]) B e36_25 ?_
 refine Ow.goto (pc' := 7) B e36_28 ?_
 refine Ow.iload (pc' := 9) B e36_7 ?_
 refine Ow.iloadN (pc' := 10) B e36_9 ?_
 refine Ow.icmpF (pc' := 13) B e36_10 (by decide) ?_
 refine Ow.aloadN (pc' := 14) B e36_13 ?_
 refine Ow.iload (pc' := 16) B e36_14 ?_
 refine Ow.baload (pc' := 17) B e36_16 hf0 ⟨by decide, by decide⟩ rfl ?_
 refine Ow.iload (pc' := 19) B e36_17 ?_
 refine Ow.icmpT (pc' := 25) B e36_19 (by decide) ?_
 refine Ow.iinc (pc' := 28) (y := 12) (Ls' := #[.val (.ref pa0), .val (.int 47), .val (.int 0), .val (.int 12), .val (.int 47), .val (.int 12)]) B e36_25 ?_
 refine Ow.goto (pc' := 7) B e36_28 ?_
 refine Ow.iload (pc' := 9) B e36_7 ?_
 refine Ow.iloadN (pc' := 10) B e36_9 ?_
 refine Ow.icmpT (pc' := 31) B e36_10 (by decide) ?_
 refine Ow.iconst (pc' := 32) (x := (-1 : Int32)) B e36_31 ?_
 exact Ow.retI (S' := []) (t := .int) B e36_32 (⟨rfl, rfl, rfl⟩)
set_option maxRecDepth 65536 in
set_option maxHeartbeats 40000000 in
theorem con_indexOf_25 (hw : Hw a0 Z) (G : Ow.Glo Z cz sf) {u0 u1 u2 : Nat} (GS : GlS Z u0 u1 u2) {pa0 : Nat} {pk0 : ClassId} {h0 : Heap} (O0 : Old Z n0 h0) (hf0 : Arv Z h0 pa0 pk0 .byte (12 : Int32) [(.int 46), (.int 36), (.int 124), (.int 40), (.int 41), (.int 91), (.int 123), (.int 94), (.int 63), (.int 42), (.int 43), (.int 92)] (.int 0)) :
    Ow.Con l Z EL1 n0 my28 jdk_43_method_22_code 4 (Option.some Jvm.ClassFile.FieldType.int) [] ({ frames := 1, cells := 0, slots := 0, locals := 17 } : Room) #[(.ref pa0), (.int 47), (.int 0), (.int 12)] [] h0 (fun v h S' => (v = some (.int (-1)) ∧ h = h0 ∧ S' = [])) := by
 refine Ow.Con.enter (Ls := #[.val (.ref pa0), .val (.int 47), .val (.int 0), .val (.int 12)]) (plainFor_of_name pn5) O0 (hEW hw) (hSA hw) ?_
 intro p e s m below meth c B
 have z0 := Ow.old_le O0
 have lu0 : (u0 : Nat) < n0 := O0.1 ▸ GS.2.1.lt
 have lu1 : (u1 : Nat) < n0 := O0.1 ▸ GS.2.2.2.2.1.lt
 have lu2 : (u2 : Nat) < n0 := O0.1 ▸ GS.2.2.2.2.2.2.lt
 have lpa0 : (pa0 : Nat) < h0.size := hf0.lt
 refine Ow.iloadN (pc' := 1) B e32_0 ?_
 refine Ow.Go.old (fun o1 => ?_)
 refine Ow.callStatic (pc' := 4) (W := 0) (k' := 0) (n' := 0) (argsL := [(.int 47)]) (rest := []) B e32_1 (w180 hw) (w181 hw) (w89 hw) (w182 hw) (con_canEncode_21 hw G GS o1) pd21 ?_
 intro vq2 h3 S4 q2 zh3
 obtain ⟨rfl, rfl, rfl⟩ := q2
 refine Ow.Go.nr (S' := []) (st' := [(.int 1)]) ?_
 refine Ow.ifT (pc' := 9) B e32_4 (by decide) ?_
 refine Ow.iloadN (pc' := 10) B e32_9 ?_
 refine Ow.iconst (pc' := 11) (x := 0) B e32_10 ?_
 refine Ow.Go.old (fun o5 => ?_)
 refine Ow.callStatic (pc' := 14) (W := 0) (k' := 0) (n' := 0) (argsL := [(.int 0), (.int 0)]) (rest := []) B e32_11 (w183 hw) (w184 hw) (w185 hw) (w186 hw) (con_max_22 hw G GS o5) pd22 ?_
 intro vq6 h7 S8 q6 zh7
 obtain ⟨rfl, rfl, rfl⟩ := q6
 refine Ow.Go.nr (S' := []) (st' := [(.int 0)]) ?_
 refine Ow.istoreN (pc' := 15) (Ls' := #[.val (.ref pa0), .val (.int 47), .val (.int 0), .val (.int 12)]) B e32_14 ?_
 refine Ow.iloadN (pc' := 16) B e32_15 ?_
 refine Ow.aloadN (pc' := 17) B e32_16 ?_
 refine Ow.arrlen (pc' := 18) B e32_17 hf0 ?_
 refine Ow.Go.old (fun o9 => ?_)
 refine Ow.callStatic (pc' := 21) (W := 0) (k' := 0) (n' := 0) (argsL := [(.int 12), (.int 12)]) (rest := []) B e32_18 (w187 hw) (w188 hw) (w185 hw) (w189 hw) (con_min_23 hw G GS o9) pd22 ?_
 intro vq10 h11 S12 q10 zh11
 obtain ⟨rfl, rfl, rfl⟩ := q10
 refine Ow.Go.nr (S' := []) (st' := [(.int 12)]) ?_
 refine Ow.istoreN (pc' := 22) (Ls' := #[.val (.ref pa0), .val (.int 47), .val (.int 0), .val (.int 12)]) B e32_21 ?_
 refine Ow.iloadN (pc' := 23) B e32_22 ?_
 refine Ow.iloadN (pc' := 24) B e32_23 ?_
 refine Ow.icmpT (pc' := 29) B e32_24 (by decide) ?_
 refine Ow.aloadN (pc' := 30) B e32_29 ?_
 refine Ow.iloadN (pc' := 31) B e32_30 ?_
 refine Ow.iloadN (pc' := 32) B e32_31 ?_
 refine Ow.iloadN (pc' := 33) B e32_32 ?_
 refine Ow.Go.old (fun o13 => ?_)
 refine Ow.callStatic (pc' := 36) (W := 0) (k' := 0) (n' := 0) (argsL := [(.ref pa0), (.int 47), (.int 0), (.int 12)]) (rest := []) B e32_33 (w190 hw) (w191 hw) (w89 hw) (w192 hw) (con_indexOfChar_24 hw G GS (pa0 := pa0) (pk0 := pk0) o13 hf0) pd23 ?_
 intro vq14 h15 S16 q14 zh15
 obtain ⟨rfl, rfl, rfl⟩ := q14
 refine Ow.Go.nr (S' := []) (st' := [(.int (-1))]) ?_
 exact Ow.retI (S' := []) (t := .int) B e32_36 (⟨rfl, rfl, rfl⟩)
set_option maxRecDepth 65536 in
set_option maxHeartbeats 40000000 in
theorem con_indexOf_26 (hw : Hw a0 Z) (G : Ow.Glo Z cz sf) {u0 u1 u2 : Nat} (GS : GlS Z u0 u1 u2) {pa0 : Nat} {pa1 : Nat} {pk0 : ClassId} {h0 : Heap} (O0 : Old Z n0 h0) (hf0 : Exa Z h0 pa0 "java/lang/String") (hf1 : Fld Z h0 pa0 "java/lang/String" "coder" "B" (.int 0)) (hf2 : Fld Z h0 pa0 "java/lang/String" "value" "[B" (.ref pa1)) (hf3 : Arv Z h0 pa1 pk0 .byte (12 : Int32) [(.int 46), (.int 36), (.int 124), (.int 40), (.int 41), (.int 91), (.int 123), (.int 94), (.int 63), (.int 42), (.int 43), (.int 92)] (.int 0)) :
    Ow.Con l Z EL1 n0 my29 jdk_42_method_80_code 3 (Option.some Jvm.ClassFile.FieldType.int) [] ({ frames := 2, cells := 0, slots := 0, locals := 32 } : Room) #[(.ref pa0), (.int 47), (.int 0)] [] h0 (fun v h S' => (v = some (.int (-1)) ∧ h = h0 ∧ S' = [])) := by
 refine Ow.Con.enter (Ls := #[.val (.ref pa0), .val (.int 47), .val (.int 0)]) (plainFor_of_name pn1) O0 (hEW hw) (hSA hw) ?_
 intro p e s m below meth c B
 have z0 := Ow.old_le O0
 have lu0 : (u0 : Nat) < n0 := O0.1 ▸ GS.2.1.lt
 have lu1 : (u1 : Nat) < n0 := O0.1 ▸ GS.2.2.2.2.1.lt
 have lu2 : (u2 : Nat) < n0 := O0.1 ▸ GS.2.2.2.2.2.2.lt
 have lpa0 : (pa0 : Nat) < h0.size := hf0.lt
 have lpa1 : (pa1 : Nat) < h0.size := hf3.lt
 refine Ow.aloadN (pc' := 1) B e31_0 ?_
 refine Ow.Go.old (fun o1 => ?_)
 refine Ow.callVirtual (pc' := 4) (W := 0) (k' := 0) (n' := 0) (argsL := []) (rest := []) (K := "java/lang/String") B e31_1 (w153 hw) (w154 hw) (w156 hw) (w156 hw) (w155 hw) (w6 hw) (w157 hw) hf0 (con_isLatin1_15 hw G GS (pa0 := pa0) o1 hf1) pd17 ?_
 intro vq2 h3 S4 q2 zh3
 obtain ⟨rfl, rfl, rfl⟩ := q2
 refine Ow.Go.nr (S' := []) (st' := [(.int 1)]) ?_
 refine Ow.ifF (pc' := 7) B e31_4 (by decide) ?_
 refine Ow.aloadN (pc' := 8) B e31_7 ?_
 refine Ow.getfield (pc' := 11) B e31_8 (w35 hw) Via.refl hf2 ?_
 refine Ow.iloadN (pc' := 12) B e31_11 ?_
 refine Ow.iloadN (pc' := 13) B e31_12 ?_
 refine Ow.aloadN (pc' := 14) B e31_13 ?_
 refine Ow.Go.old (fun o5 => ?_)
 refine Ow.callVirtual (pc' := 17) (W := 3) (k' := 0) (n' := 0) (argsL := []) (rest := [(.int 0), (.int 47), (.ref pa1)]) (K := "java/lang/String") B e31_14 (w104 hw) (w105 hw) (w107 hw) (w107 hw) (w106 hw) (w6 hw) (w108 hw) hf0 (con_length_20 hw G GS (pa0 := pa0) (pa1 := pa1) (pk0 := pk0) o5 hf0 hf1 hf2 hf3) pd9 ?_
 intro vq6 h7 S8 q6 zh7
 obtain ⟨rfl, rfl, rfl⟩ := q6
 refine Ow.Go.nr (S' := []) (st' := [(.int 12), (.int 0), (.int 47), (.ref pa1)]) ?_
 refine Ow.Go.old (fun o9 => ?_)
 refine Ow.callStatic (pc' := 20) (W := 0) (k' := 0) (n' := 0) (argsL := [(.ref pa1), (.int 47), (.int 0), (.int 12)]) (rest := []) B e31_17 (w177 hw) (w178 hw) (w89 hw) (w179 hw) (con_indexOf_25 hw G GS (pa0 := pa1) (pk0 := pk0) o9 hf3) pd23 ?_
 intro vq10 h11 S12 q10 zh11
 obtain ⟨rfl, rfl, rfl⟩ := q10
 refine Ow.Go.nr (S' := []) (st' := [(.int (-1))]) ?_
 refine Ow.goto (pc' := 36) B e31_20 ?_
 exact Ow.retI (S' := []) (t := .int) B e31_36 (⟨rfl, rfl, rfl⟩)
set_option maxRecDepth 65536 in
set_option maxHeartbeats 40000000 in
theorem con_indexOf_27 (hw : Hw a0 Z) (G : Ow.Glo Z cz sf) {u0 u1 u2 : Nat} (GS : GlS Z u0 u1 u2) {pa0 : Nat} {pa1 : Nat} {pk0 : ClassId} {h0 : Heap} (O0 : Old Z n0 h0) (hf0 : Exa Z h0 pa0 "java/lang/String") (hf1 : Fld Z h0 pa0 "java/lang/String" "coder" "B" (.int 0)) (hf2 : Fld Z h0 pa0 "java/lang/String" "value" "[B" (.ref pa1)) (hf3 : Arv Z h0 pa1 pk0 .byte (12 : Int32) [(.int 46), (.int 36), (.int 124), (.int 40), (.int 41), (.int 91), (.int 123), (.int 94), (.int 63), (.int 42), (.int 43), (.int 92)] (.int 0)) :
    Ow.Con l Z EL1 n0 my30 jdk_42_method_79_code 2 (Option.some Jvm.ClassFile.FieldType.int) [] ({ frames := 3, cells := 0, slots := 0, locals := 46 } : Room) #[(.ref pa0), (.int 47)] [] h0 (fun v h S' => (v = some (.int (-1)) ∧ h = h0 ∧ S' = [])) := by
 refine Ow.Con.enter (Ls := #[.val (.ref pa0), .val (.int 47)]) (plainFor_of_name pn1) O0 (hEW hw) (hSA hw) ?_
 intro p e s m below meth c B
 have z0 := Ow.old_le O0
 have lu0 : (u0 : Nat) < n0 := O0.1 ▸ GS.2.1.lt
 have lu1 : (u1 : Nat) < n0 := O0.1 ▸ GS.2.2.2.2.1.lt
 have lu2 : (u2 : Nat) < n0 := O0.1 ▸ GS.2.2.2.2.2.2.lt
 have lpa0 : (pa0 : Nat) < h0.size := hf0.lt
 have lpa1 : (pa1 : Nat) < h0.size := hf3.lt
 refine Ow.aloadN (pc' := 1) B e30_0 ?_
 refine Ow.iloadN (pc' := 2) B e30_1 ?_
 refine Ow.iconst (pc' := 3) (x := 0) B e30_2 ?_
 refine Ow.Go.old (fun o1 => ?_)
 refine Ow.callVirtual (pc' := 6) (W := 0) (k' := 0) (n' := 0) (argsL := [(.int 47), (.int 0)]) (rest := []) (K := "java/lang/String") B e30_3 (w172 hw) (w173 hw) (w175 hw) (w175 hw) (w174 hw) (w6 hw) (w176 hw) hf0 (con_indexOf_26 hw G GS (pa0 := pa0) (pa1 := pa1) (pk0 := pk0) o1 hf0 hf1 hf2 hf3) pd22 ?_
 intro vq2 h3 S4 q2 zh3
 obtain ⟨rfl, rfl, rfl⟩ := q2
 refine Ow.Go.nr (S' := []) (st' := [(.int (-1))]) ?_
 exact Ow.retI (S' := []) (t := .int) B e30_6 (⟨rfl, rfl, rfl⟩)
set_option maxRecDepth 65536 in
set_option maxHeartbeats 40000000 in
theorem con_init_28 (hw : Hw a0 Z) (G : Ow.Glo Z cz sf) {u0 u1 u2 : Nat} (GS : GlS Z u0 u1 u2) {pa0 : Nat} {h0 : Heap} (O0 : Old Z n0 h0) :
    Ow.Con l Z EL1 n0 my31 jdk_22_method_1_code 1 (Option.none : Option Jvm.ClassFile.FieldType) [] ({ frames := 1, cells := 0, slots := 0, locals := 12 } : Room) #[(.ref pa0)] [] h0 (fun v h S' => (v = none ∧ h = h0 ∧ S' = [])) := by
 refine Ow.Con.enter (Ls := #[.val (.ref pa0)]) (plainFor_of_name pn10) O0 (hEW hw) (hSA hw) ?_
 intro p e s m below meth c B
 have z0 := Ow.old_le O0
 have lu0 : (u0 : Nat) < n0 := O0.1 ▸ GS.2.1.lt
 have lu1 : (u1 : Nat) < n0 := O0.1 ▸ GS.2.2.2.2.1.lt
 have lu2 : (u2 : Nat) < n0 := O0.1 ▸ GS.2.2.2.2.2.2.lt
 refine Ow.aloadN (pc' := 1) B e40_0 ?_
 refine Ow.objInit (pc' := 4) (W := 0) B e40_1 (w218 hw) (w19 hw) (w20 hw) ?_
 exact Ow.retV (S' := []) B e40_4 (⟨rfl, rfl, rfl⟩)
set_option maxRecDepth 65536 in
set_option maxHeartbeats 40000000 in
theorem con_init_29 (hw : Hw a0 Z) (G : Ow.Glo Z cz sf) {u0 u1 u2 : Nat} (GS : GlS Z u0 u1 u2) {pa0 : Nat} {h0 : Heap} (O0 : Old Z n0 h0) (hf0 : Exa Z h0 pa0 "java/util/ArrayList") (hf1 : Fld Z h0 pa0 "java/util/AbstractList" "modCount" "I" (.int 0)) (hf2 : Fld Z h0 pa0 "java/util/ArrayList" "elementData" "[Ljava/lang/Object;" .null) (hn0 : n0 ≤ pa0) :
    Ow.Con l Z EL1 n0 my32 jdk_39_method_1_code 1 (Option.none : Option Jvm.ClassFile.FieldType) [] ({ frames := 2, cells := 0, slots := 0, locals := 24 } : Room) #[(.ref pa0)] [] h0 (fun v h S' => (v = none ∧ Keep h0 h [pa0] ∧ Exa Z h pa0 "java/util/ArrayList" ∧ Fld Z h pa0 "java/util/AbstractList" "modCount" "I" (.int 0) ∧ Fld Z h pa0 "java/util/ArrayList" "elementData" "[Ljava/lang/Object;" .null ∧ S' = [])) := by
 refine Ow.Con.enter (Ls := #[.val (.ref pa0)]) (plainFor_of_name pn9) O0 (hEW hw) (hSA hw) ?_
 intro p e s m below meth c B
 have z0 := Ow.old_le O0
 have lu0 : (u0 : Nat) < n0 := O0.1 ▸ GS.2.1.lt
 have lu1 : (u1 : Nat) < n0 := O0.1 ▸ GS.2.2.2.2.1.lt
 have lu2 : (u2 : Nat) < n0 := O0.1 ▸ GS.2.2.2.2.2.2.lt
 have lpa0 : (pa0 : Nat) < h0.size := hf0.lt
 refine Ow.aloadN (pc' := 1) B e39_0 ?_
 refine Ow.Go.old (fun o1 => ?_)
 refine Ow.callInit (pc' := 4) (W := 0) (k' := 0) (n' := 0) (argsL := []) (rest := []) B e39_1 (w212 hw) (w213 hw) (w216 hw) (w217 hw) (con_init_28 hw G GS (pa0 := pa0) o1) pd25 ?_
 intro vq2 h3 S4 q2 zh3
 obtain ⟨rfl, rfl, rfl⟩ := q2
 refine Ow.Go.nr (S' := []) (st' := []) ?_
 refine Ow.aloadN (pc' := 5) B e39_4 ?_
 refine Ow.iconst (pc' := 6) (x := 0) B e39_5 ?_
 refine Ow.putfield (pc' := 9) (ty := .int) B e39_6 (w219 hw) Via.refl hf1 hf0 (Or.inl (w220 hw)) (w200 hw) (Or.inr ⟨by decide, by decide⟩) ?_
 intro h5 Wh5
 have Kh5 := Keep.of_wr Wh5
 have zh5 := Kh5.1
 have f6 : Fld Z h5 pa0 "java/util/AbstractList" "modCount" "I" (.int 0) := hf1.same Wh5
 have f7 : Fld Z h5 pa0 "java/util/ArrayList" "elementData" "[Ljava/lang/Object;" .null := hf2.other Wh5 (Or.inr (slot_ne (a0 := a0) (C := "java/util/ArrayList") (t := (.array (.object "java/lang/Object"))) (t' := .int) (Or.inl (w223 hw)) (Or.inl (w220 hw)) (by decide) (by decide) (by decide)))
 have f8 := hf0.keep Kh5
 exact Ow.retV (S' := []) B e39_9 (⟨rfl, ((Keep.refl _ [pa0]).trans Kh5 (allS (Or.inl (by simp)) all0)), f8, f6, f7, rfl⟩)
set_option maxRecDepth 65536 in
set_option maxHeartbeats 40000000 in
theorem con_init_30 (hw : Hw a0 Z) (G : Ow.Glo Z cz sf) {u0 u1 u2 : Nat} (GS : GlS Z u0 u1 u2) {pa0 : Nat} {h0 : Heap} (O0 : Old Z n0 h0) (hf0 : Exa Z h0 pa0 "java/util/ArrayList") (hf1 : Fld Z h0 pa0 "java/util/AbstractList" "modCount" "I" (.int 0)) (hf2 : Fld Z h0 pa0 "java/util/ArrayList" "elementData" "[Ljava/lang/Object;" .null) (hn0 : n0 ≤ pa0) :
    Ow.Con l Z EL1 n0 my33 jdk_38_method_2_code 1 (Option.none : Option Jvm.ClassFile.FieldType) [] ({ frames := 3, cells := 0, slots := 0, locals := 36 } : Room) #[(.ref pa0)] [] h0 (fun v h S' => (v = none ∧ Keep h0 h [pa0] ∧ Exa Z h pa0 "java/util/ArrayList" ∧ Fld Z h pa0 "java/util/AbstractList" "modCount" "I" (.int 0) ∧ Fld Z h pa0 "java/util/ArrayList" "elementData" "[Ljava/lang/Object;" (.ref u1) ∧ S' = [])) := by
 refine Ow.Con.enter (Ls := #[.val (.ref pa0)]) (plainFor_of_name pn8) O0 (hEW hw) (hSA hw) ?_
 intro p e s m below meth c B
 have z0 := Ow.old_le O0
 have lu0 : (u0 : Nat) < n0 := O0.1 ▸ GS.2.1.lt
 have lu1 : (u1 : Nat) < n0 := O0.1 ▸ GS.2.2.2.2.1.lt
 have lu2 : (u2 : Nat) < n0 := O0.1 ▸ GS.2.2.2.2.2.2.lt
 have lpa0 : (pa0 : Nat) < h0.size := hf0.lt
 refine Ow.aloadN (pc' := 1) B e38_0 ?_
 refine Ow.Go.old (fun o1 => ?_)
 refine Ow.callInit (pc' := 4) (W := 0) (k' := 0) (n' := 0) (argsL := []) (rest := []) B e38_1 (w206 hw) (w207 hw) (w210 hw) (w211 hw) (con_init_29 hw G GS (pa0 := pa0) o1 hf0 hf1 hf2 (by omega)) pd25 ?_
 intro vq2 h3 S4 q2 zh3
 obtain ⟨rfl, Kh3, f5, f6, f7, rfl⟩ := q2
 refine Ow.Go.nr (S' := []) (st' := []) ?_
 refine Ow.aloadN (pc' := 5) B e38_4 ?_
 refine Ow.getstatic (pc' := 8) B e38_5 (w221 hw) Via.refl GS.2.2.2.1 ?_
 refine Ow.putfield (pc' := 11) (ty := (.array (.object "java/lang/Object"))) B e38_8 (w222 hw) Via.refl f7 f5 (Or.inl (w223 hw)) (w200 hw) (Or.inr ⟨by decide, by decide⟩) ?_
 intro h8 Wh8
 have Kh8 := Keep.of_wr Wh8
 have zh8 := Kh8.1
 have f9 : Fld Z h8 pa0 "java/util/ArrayList" "elementData" "[Ljava/lang/Object;" (.ref u1) := f7.same Wh8
 have f10 : Fld Z h8 pa0 "java/util/AbstractList" "modCount" "I" (.int 0) := f6.other Wh8 (Or.inr (slot_ne (a0 := a0) (C := "java/util/ArrayList") (t := .int) (t' := (.array (.object "java/lang/Object"))) (Or.inl (w220 hw)) (Or.inl (w223 hw)) (by decide) (by decide) (by decide)))
 have f11 := f5.keep Kh8
 exact Ow.retV (S' := []) B e38_11 (⟨rfl, (((Keep.refl _ [pa0]).trans Kh3 (allS (Or.inl (by simp)) all0)).trans Kh8 (allS (Or.inl (by simp)) all0)), f11, f10, f9, rfl⟩)
set_option maxRecDepth 65536 in
set_option maxHeartbeats 40000000 in
theorem con_isLatin1_31 (hw : Hw a0 Z) (G : Ow.Glo Z cz sf) {u0 u1 u2 : Nat} (GS : GlS Z u0 u1 u2) {pa0 : Nat} {h0 : Heap} (O0 : Old Z n0 h0) (hf0 : Fld Z h0 pa0 "java/lang/String" "coder" "B" (.int 0)) :
    Ow.Con l Z EL1 n0 my19 jdk_42_method_154_code 1 (Option.some Jvm.ClassFile.FieldType.boolean) [] ({ frames := 0, cells := 0, slots := 0, locals := 0 } : Room) #[(.ref pa0)] [pa0] h0 (fun v h S' => (v = some (.int 1) ∧ h = h0 ∧ S' = [])) := by
 refine Ow.Con.enter (Ls := #[.val (.ref pa0)]) (plainFor_of_name pn1) O0 (hEW hw) (hSA hw) ?_
 intro p e s m below meth c B
 have z0 := Ow.old_le O0
 have lu0 : (u0 : Nat) < n0 := O0.1 ▸ GS.2.1.lt
 have lu1 : (u1 : Nat) < n0 := O0.1 ▸ GS.2.2.2.2.1.lt
 have lu2 : (u2 : Nat) < n0 := O0.1 ▸ GS.2.2.2.2.2.2.lt
 have lpa0 : (pa0 : Nat) < h0.size := hf0.lt
 refine Ow.getstatic (pc' := 3) B e26_0 (w21 hw) Via.refl G.1 ?_
 refine Ow.ifF (pc' := 6) B e26_3 (feq (G.2.1)).1 ?_
 refine Ow.aloadN (pc' := 7) B e26_6 ?_
 refine Ow.getfield (pc' := 10) B e26_7 (w33 hw) Via.refl hf0 ?_
 refine Ow.ifF (pc' := 13) B e26_10 (by decide) ?_
 refine Ow.iconst (pc' := 14) (x := 1) B e26_13 ?_
 refine Ow.goto (pc' := 18) B e26_14 ?_
 exact Ow.retI (S' := []) (t := .boolean) B e26_18 (⟨rfl, rfl, rfl⟩)
set_option maxRecDepth 65536 in
set_option maxHeartbeats 40000000 in
theorem con_min_32 (hw : Hw a0 Z) (G : Ow.Glo Z cz sf) {u0 u1 u2 : Nat} (GS : GlS Z u0 u1 u2) {h0 : Heap} (O0 : Old Z n0 h0) :
    Ow.Con l Z EL1 n0 my26 jdk_29_method_69_code 2 (Option.some Jvm.ClassFile.FieldType.int) [] ({ frames := 0, cells := 0, slots := 0, locals := 0 } : Room) #[(.int 1), (.int 1)] [] h0 (fun v h S' => (v = some (.int 1) ∧ h = h0 ∧ S' = [])) := by
 refine Ow.Con.enter (Ls := #[.val (.int 1), .val (.int 1)]) (by decide +kernel) O0 (hEW hw) (hSA hw) ?_
 intro p e s m below meth c B
 have z0 := Ow.old_le O0
 have lu0 : (u0 : Nat) < n0 := O0.1 ▸ GS.2.1.lt
 have lu1 : (u1 : Nat) < n0 := O0.1 ▸ GS.2.2.2.2.1.lt
 have lu2 : (u2 : Nat) < n0 := O0.1 ▸ GS.2.2.2.2.2.2.lt
 refine Ow.iloadN (pc' := 1) B e35_0 ?_
 refine Ow.iloadN (pc' := 2) B e35_1 ?_
 refine Ow.icmpF (pc' := 5) B e35_2 (by decide) ?_
 refine Ow.iloadN (pc' := 6) B e35_5 ?_
 refine Ow.goto (pc' := 10) B e35_6 ?_
 exact Ow.retI (S' := []) (t := .int) B e35_10 (⟨rfl, rfl, rfl⟩)
set_option maxRecDepth 65536 in
set_option maxHeartbeats 40000000 in
theorem con_indexOfChar_33 (hw : Hw a0 Z) (G : Ow.Glo Z cz sf) {u0 u1 u2 : Nat} (GS : GlS Z u0 u1 u2) {pa0 : Nat} {px0 : Int32} {pk0 : ClassId} {h0 : Heap} (O0 : Old Z n0 h0) (hf0 : Arv Z h0 pa0 pk0 .byte (1 : Int32) [(.int px0.toInt8.toInt32)] (.int 0)) (hk0 : alP px0) :
    Ow.Con l Z EL1 n0 my27 jdk_43_method_23_code 6 (Option.some Jvm.ClassFile.FieldType.int) [] ({ frames := 0, cells := 0, slots := 0, locals := 0 } : Room) #[(.ref pa0), (.int 47), (.int 0), (.int 1)] [] h0 (fun v h S' => (v = some (.int (-1)) ∧ h = h0 ∧ S' = [])) := by
 refine Ow.Con.enter (Ls := #[.val (.ref pa0), .val (.int 47), .val (.int 0), .val (.int 1), .unset, .unset]) (plainFor_of_name pn5) O0 (hEW hw) (hSA hw) ?_
 intro p e s m below meth c B
 have z0 := Ow.old_le O0
 have lu0 : (u0 : Nat) < n0 := O0.1 ▸ GS.2.1.lt
 have lu1 : (u1 : Nat) < n0 := O0.1 ▸ GS.2.2.2.2.1.lt
 have lu2 : (u2 : Nat) < n0 := O0.1 ▸ GS.2.2.2.2.2.2.lt
 have lpa0 : (pa0 : Nat) < h0.size := hf0.lt
 have i0 := hk0
 have e0 := own_al8 i0
 unfold alP at i0
 refine Ow.iloadN (pc' := 1) B e36_0 ?_
 refine Ow.i2b (pc' := 2) (z := 47) B e36_1 ?_
 refine Ow.istore (pc' := 4) (Ls' := #[.val (.ref pa0), .val (.int 47), .val (.int 0), .val (.int 1), .val (.int 47), .unset]) B e36_2 ?_
 refine Ow.iloadN (pc' := 5) B e36_4 ?_
 refine Ow.istore (pc' := 7) (Ls' := #[.val (.ref pa0), .val (.int 47), .val (.int 0), .val (.int 1), .val (.int 47), .val (.int 0)]) B e36_5 ?_
 refine Ow.iload (pc' := 9) B e36_7 ?_
 refine Ow.iloadN (pc' := 10) B e36_9 ?_
 refine Ow.icmpF (pc' := 13) B e36_10 (by decide) ?_
 refine Ow.aloadN (pc' := 14) B e36_13 ?_
 refine Ow.iload (pc' := 16) B e36_14 ?_
 refine Ow.baload (pc' := 17) B e36_16 hf0 ⟨by decide, by decide⟩ rfl ?_
 refine Ow.iload (pc' := 19) B e36_17 ?_
 refine Ow.icmpT (pc' := 25) B e36_19 (feq ((by simp only [Int32.lt_iff_toInt_lt, ← Int32.toInt_inj, Int32.reduceToInt]; omega))).2 ?_
 refine Ow.iinc (pc' := 28) (y := 1) (Ls' := #[.val (.ref pa0), .val (.int 47), .val (.int 0), .val (.int 1), .val (.int 47), .val (.int 1)]) B e36_25 ?_
 refine Ow.goto (pc' := 7) B e36_28 ?_
 refine Ow.iload (pc' := 9) B e36_7 ?_
 refine Ow.iloadN (pc' := 10) B e36_9 ?_
 refine Ow.icmpT (pc' := 31) B e36_10 (by decide) ?_
 refine Ow.iconst (pc' := 32) (x := (-1 : Int32)) B e36_31 ?_
 exact Ow.retI (S' := []) (t := .int) B e36_32 (⟨rfl, rfl, rfl⟩)
set_option maxRecDepth 65536 in
set_option maxHeartbeats 40000000 in
theorem con_indexOf_34 (hw : Hw a0 Z) (G : Ow.Glo Z cz sf) {u0 u1 u2 : Nat} (GS : GlS Z u0 u1 u2) {pa0 : Nat} {px0 : Int32} {pk0 : ClassId} {h0 : Heap} (O0 : Old Z n0 h0) (hf0 : Arv Z h0 pa0 pk0 .byte (1 : Int32) [(.int px0.toInt8.toInt32)] (.int 0)) (hk0 : alP px0) :
    Ow.Con l Z EL1 n0 my28 jdk_43_method_22_code 4 (Option.some Jvm.ClassFile.FieldType.int) [] ({ frames := 1, cells := 0, slots := 0, locals := 17 } : Room) #[(.ref pa0), (.int 47), (.int 0), (.int 1)] [] h0 (fun v h S' => (v = some (.int (-1)) ∧ h = h0 ∧ S' = [])) := by
 refine Ow.Con.enter (Ls := #[.val (.ref pa0), .val (.int 47), .val (.int 0), .val (.int 1)]) (plainFor_of_name pn5) O0 (hEW hw) (hSA hw) ?_
 intro p e s m below meth c B
 have z0 := Ow.old_le O0
 have lu0 : (u0 : Nat) < n0 := O0.1 ▸ GS.2.1.lt
 have lu1 : (u1 : Nat) < n0 := O0.1 ▸ GS.2.2.2.2.1.lt
 have lu2 : (u2 : Nat) < n0 := O0.1 ▸ GS.2.2.2.2.2.2.lt
 have lpa0 : (pa0 : Nat) < h0.size := hf0.lt
 refine Ow.iloadN (pc' := 1) B e32_0 ?_
 refine Ow.Go.old (fun o1 => ?_)
 refine Ow.callStatic (pc' := 4) (W := 0) (k' := 0) (n' := 0) (argsL := [(.int 47)]) (rest := []) B e32_1 (w180 hw) (w181 hw) (w89 hw) (w182 hw) (con_canEncode_21 hw G GS o1) pd21 ?_
 intro vq2 h3 S4 q2 zh3
 obtain ⟨rfl, rfl, rfl⟩ := q2
 refine Ow.Go.nr (S' := []) (st' := [(.int 1)]) ?_
 refine Ow.ifT (pc' := 9) B e32_4 (by decide) ?_
 refine Ow.iloadN (pc' := 10) B e32_9 ?_
 refine Ow.iconst (pc' := 11) (x := 0) B e32_10 ?_
 refine Ow.Go.old (fun o5 => ?_)
 refine Ow.callStatic (pc' := 14) (W := 0) (k' := 0) (n' := 0) (argsL := [(.int 0), (.int 0)]) (rest := []) B e32_11 (w183 hw) (w184 hw) (w185 hw) (w186 hw) (con_max_22 hw G GS o5) pd22 ?_
 intro vq6 h7 S8 q6 zh7
 obtain ⟨rfl, rfl, rfl⟩ := q6
 refine Ow.Go.nr (S' := []) (st' := [(.int 0)]) ?_
 refine Ow.istoreN (pc' := 15) (Ls' := #[.val (.ref pa0), .val (.int 47), .val (.int 0), .val (.int 1)]) B e32_14 ?_
 refine Ow.iloadN (pc' := 16) B e32_15 ?_
 refine Ow.aloadN (pc' := 17) B e32_16 ?_
 refine Ow.arrlen (pc' := 18) B e32_17 hf0 ?_
 refine Ow.Go.old (fun o9 => ?_)
 refine Ow.callStatic (pc' := 21) (W := 0) (k' := 0) (n' := 0) (argsL := [(.int 1), (.int 1)]) (rest := []) B e32_18 (w187 hw) (w188 hw) (w185 hw) (w189 hw) (con_min_32 hw G GS o9) pd22 ?_
 intro vq10 h11 S12 q10 zh11
 obtain ⟨rfl, rfl, rfl⟩ := q10
 refine Ow.Go.nr (S' := []) (st' := [(.int 1)]) ?_
 refine Ow.istoreN (pc' := 22) (Ls' := #[.val (.ref pa0), .val (.int 47), .val (.int 0), .val (.int 1)]) B e32_21 ?_
 refine Ow.iloadN (pc' := 23) B e32_22 ?_
 refine Ow.iloadN (pc' := 24) B e32_23 ?_
 refine Ow.icmpT (pc' := 29) B e32_24 (by decide) ?_
 refine Ow.aloadN (pc' := 30) B e32_29 ?_
 refine Ow.iloadN (pc' := 31) B e32_30 ?_
 refine Ow.iloadN (pc' := 32) B e32_31 ?_
 refine Ow.iloadN (pc' := 33) B e32_32 ?_
 refine Ow.Go.old (fun o13 => ?_)
 refine Ow.callStatic (pc' := 36) (W := 0) (k' := 0) (n' := 0) (argsL := [(.ref pa0), (.int 47), (.int 0), (.int 1)]) (rest := []) B e32_33 (w190 hw) (w191 hw) (w89 hw) (w192 hw) (con_indexOfChar_33 hw G GS (pa0 := pa0) (px0 := px0) (pk0 := pk0) o13 hf0 (hk0)) pd23 ?_
 intro vq14 h15 S16 q14 zh15
 obtain ⟨rfl, rfl, rfl⟩ := q14
 refine Ow.Go.nr (S' := []) (st' := [(.int (-1))]) ?_
 exact Ow.retI (S' := []) (t := .int) B e32_36 (⟨rfl, rfl, rfl⟩)
set_option maxRecDepth 65536 in
set_option maxHeartbeats 40000000 in
theorem con_indexOf_35 (hw : Hw a0 Z) (G : Ow.Glo Z cz sf) {u0 u1 u2 : Nat} (GS : GlS Z u0 u1 u2) {pa0 : Nat} {pa1 : Nat} {px0 : Int32} {pk0 : ClassId} {h0 : Heap} (O0 : Old Z n0 h0) (hf0 : Exa Z h0 pa0 "java/lang/String") (hf1 : Fld Z h0 pa0 "java/lang/String" "coder" "B" (.int 0)) (hf2 : Fld Z h0 pa0 "java/lang/String" "value" "[B" (.ref pa1)) (hf3 : Arv Z h0 pa1 pk0 .byte (1 : Int32) [(.int px0.toInt8.toInt32)] (.int 0)) (hk0 : alP px0) :
    Ow.Con l Z EL1 n0 my29 jdk_42_method_80_code 3 (Option.some Jvm.ClassFile.FieldType.int) [] ({ frames := 2, cells := 0, slots := 0, locals := 32 } : Room) #[(.ref pa0), (.int 47), (.int 0)] [pa0] h0 (fun v h S' => (v = some (.int (-1)) ∧ h = h0 ∧ S' = [])) := by
 refine Ow.Con.enter (Ls := #[.val (.ref pa0), .val (.int 47), .val (.int 0)]) (plainFor_of_name pn1) O0 (hEW hw) (hSA hw) ?_
 intro p e s m below meth c B
 have z0 := Ow.old_le O0
 have lu0 : (u0 : Nat) < n0 := O0.1 ▸ GS.2.1.lt
 have lu1 : (u1 : Nat) < n0 := O0.1 ▸ GS.2.2.2.2.1.lt
 have lu2 : (u2 : Nat) < n0 := O0.1 ▸ GS.2.2.2.2.2.2.lt
 have lpa0 : (pa0 : Nat) < h0.size := hf0.lt
 have lpa1 : (pa1 : Nat) < h0.size := hf3.lt
 refine Ow.aloadN (pc' := 1) B e31_0 ?_
 refine Ow.Go.old (fun o1 => ?_)
 refine Ow.callVirtual (pc' := 4) (W := 0) (k' := 0) (n' := 0) (argsL := []) (rest := []) (K := "java/lang/String") B e31_1 (w153 hw) (w154 hw) (w156 hw) (w156 hw) (w155 hw) (w6 hw) (w157 hw) hf0 (con_isLatin1_31 hw G GS (pa0 := pa0) o1 hf1) pd17 ?_
 intro vq2 h3 S4 q2 zh3
 obtain ⟨rfl, rfl, rfl⟩ := q2
 refine Ow.Go.nr (S' := [pa0]) (st' := [(.int 1)]) ?_
 refine Ow.ifF (pc' := 7) B e31_4 (by decide) ?_
 refine Ow.aloadN (pc' := 8) B e31_7 ?_
 refine Ow.getfield (pc' := 11) B e31_8 (w35 hw) Via.refl hf2 ?_
 refine Ow.iloadN (pc' := 12) B e31_11 ?_
 refine Ow.iloadN (pc' := 13) B e31_12 ?_
 refine Ow.aloadN (pc' := 14) B e31_13 ?_
 refine Ow.Go.old (fun o5 => ?_)
 refine Ow.callVirtual (pc' := 17) (W := 3) (k' := 0) (n' := 0) (argsL := []) (rest := [(.int 0), (.int 47), (.ref pa1)]) (K := "java/lang/String") B e31_14 (w104 hw) (w105 hw) (w107 hw) (w107 hw) (w106 hw) (w6 hw) (w108 hw) hf0 (con_length_4 hw G GS (pa0 := pa0) (pa1 := pa1) (px0 := px0) (pk0 := pk0) o5 hf0 hf1 hf2 hf3) pd9 ?_
 intro vq6 h7 S8 q6 zh7
 obtain ⟨rfl, rfl, rfl⟩ := q6
 refine Ow.Go.nr (S' := [pa0]) (st' := [(.int 1), (.int 0), (.int 47), (.ref pa1)]) ?_
 refine Ow.Go.old (fun o9 => ?_)
 refine Ow.callStatic (pc' := 20) (W := 0) (k' := 0) (n' := 0) (argsL := [(.ref pa1), (.int 47), (.int 0), (.int 1)]) (rest := []) B e31_17 (w177 hw) (w178 hw) (w89 hw) (w179 hw) (con_indexOf_34 hw G GS (pa0 := pa1) (px0 := px0) (pk0 := pk0) o9 hf3 (hk0)) pd23 ?_
 intro vq10 h11 S12 q10 zh11
 obtain ⟨rfl, rfl, rfl⟩ := q10
 refine Ow.Go.nr (S' := [pa0]) (st' := [(.int (-1))]) ?_
 refine Ow.goto (pc' := 36) B e31_20 ?_
 exact Ow.retI (S' := []) (t := .int) B e31_36 (⟨rfl, rfl, rfl⟩)
set_option maxRecDepth 65536 in
set_option maxHeartbeats 40000000 in
theorem con_split_36 (hw : Hw a0 Z) (G : Ow.Glo Z cz sf) {u0 u1 u2 : Nat} (GS : GlS Z u0 u1 u2) {pa0 : Nat} {pa1 : Nat} {px0 : Int32} {pk0 : ClassId} {h0 : Heap} (O0 : Old Z n0 h0) (hf0 : Exa Z h0 pa0 "java/lang/String") (hf1 : Fld Z h0 pa0 "java/lang/String" "coder" "B" (.int 0)) (hf2 : Fld Z h0 pa0 "java/lang/String" "value" "[B" (.ref pa1)) (hf3 : Arv Z h0 pa1 pk0 .byte (1 : Int32) [(.int px0.toInt8.toInt32)] (.int 0)) (hk0 : alP px0) :
    Ow.Con l Z EL1 n0 my34 jdk_42_method_104_code 12 (Option.some (Jvm.ClassFile.FieldType.array (Jvm.ClassFile.FieldType.object "java/lang/String"))) [] ({ frames := 4, cells := 2, slots := 4, locals := 49 } : Room) #[(.ref pa0), (.int 47), (.int (-1)), (.int 0)] [pa0] h0 (fun v h S' => (∃ r0 : Nat, ∃ k0 : ClassId, v = some (.ref r0) ∧ Keep h0 h [] ∧ h0.size ≤ r0 ∧ Arv Z h r0 k0 (.object "java/lang/String") (1 : Int32) [(.ref pa0)] .null ∧ S' = [])) := by
 refine Ow.Con.enter (Ls := #[.val (.ref pa0), .val (.int 47), .val (.int (-1)), .val (.int 0), .unset, .unset, .unset, .unset, .unset, .unset, .unset, .unset]) (plainFor_of_name pn1) O0 (hEW hw) (hSA hw) ?_
 intro p e s m below meth c B
 have z0 := Ow.old_le O0
 have lu0 : (u0 : Nat) < n0 := O0.1 ▸ GS.2.1.lt
 have lu1 : (u1 : Nat) < n0 := O0.1 ▸ GS.2.2.2.2.1.lt
 have lu2 : (u2 : Nat) < n0 := O0.1 ▸ GS.2.2.2.2.2.2.lt
 have lpa0 : (pa0 : Nat) < h0.size := hf0.lt
 have lpa1 : (pa1 : Nat) < h0.size := hf3.lt
 refine Ow.iconst (pc' := 1) (x := 0) B e37_0 ?_
 refine Ow.istore (pc' := 3) (Ls' := #[.val (.ref pa0), .val (.int 47), .val (.int (-1)), .val (.int 0), .val (.int 0), .unset, .unset, .unset, .unset, .unset, .unset, .unset]) B e37_1 ?_
 refine Ow.iconst (pc' := 4) (x := 0) B e37_3 ?_
 refine Ow.istore (pc' := 6) (Ls' := #[.val (.ref pa0), .val (.int 47), .val (.int (-1)), .val (.int 0), .val (.int 0), .val (.int 0), .unset, .unset, .unset, .unset, .unset, .unset]) B e37_4 ?_
 refine Ow.iloadN (pc' := 7) B e37_6 ?_
 refine Ow.ifT (pc' := 14) B e37_7 (by decide) ?_
 refine Ow.iconst (pc' := 15) (x := 0) B e37_14 ?_
 refine Ow.istore (pc' := 17) (Ls' := #[.val (.ref pa0), .val (.int 47), .val (.int (-1)), .val (.int 0), .val (.int 0), .val (.int 0), .unset, .val (.int 0), .unset, .unset, .unset, .unset]) B e37_15 ?_
 refine Ow.newObj (pc' := 20) (k' := 1) (n' := 3) B e37_17 (w199 hw) (w200 hw) (w201 hw) ?_
 intro h2 a1 ga1 ba1 Kh2 Aa1 Da1
 have zh2 := Kh2.1
 have la1 : (a1 : Nat) < h2.size := Aa1.lt
 have f3 : Fld Z h2 a1 "java/util/AbstractList" "modCount" "I" (.int 0) := Da1 (Or.inl (w220 hw)) (ty := .int) (by decide)
 have f4 : Fld Z h2 a1 "java/util/ArrayList" "elementData" "[Ljava/lang/Object;" .null := Da1 (Or.inl (w223 hw)) (ty := (.array (.object "java/lang/Object"))) (by decide)
 refine Ow.dup (pc' := 21) B e37_20 ?_
 refine Ow.Go.old (fun o5 => ?_)
 refine Ow.callInit (pc' := 24) (W := 1) (k' := 1) (n' := 3) (argsL := []) (rest := [(.ref a1)]) B e37_21 (w202 hw) (w203 hw) (w201 hw) (w205 hw) (con_init_30 hw G GS (pa0 := a1) o5 Aa1 f3 f4 (by omega)) pd25 ?_
 intro vq6 h7 S8 q6 zh7
 obtain ⟨rfl, Kh7, f9, f10, f11, rfl⟩ := q6
 refine Ow.Go.nr (S' := [a1, pa0]) (st' := [(.ref a1)]) ?_
 refine Ow.astore (pc' := 26) (Ls' := #[.val (.ref pa0), .val (.int 47), .val (.int (-1)), .val (.int 0), .val (.int 0), .val (.int 0), .unset, .val (.int 0), .val (.ref a1), .unset, .unset, .unset]) B e37_24 ?_
 refine Ow.iloadN (pc' := 27) B e37_26 ?_
 refine Ow.ifT (pc' := 37) B e37_27 (by decide) ?_
 refine Ow.aconstNull (pc' := 38) B e37_37 ?_
 refine Ow.astore (pc' := 40) (Ls' := #[.val (.ref pa0), .val (.int 47), .val (.int (-1)), .val (.int 0), .val (.int 0), .val (.int 0), .unset, .val (.int 0), .val (.ref a1), .val .null, .unset, .unset]) B e37_38 ?_
 refine Ow.aloadN (pc' := 41) B e37_40 ?_
 refine Ow.iloadN (pc' := 42) B e37_41 ?_
 refine Ow.iload (pc' := 44) B e37_42 ?_
 refine Ow.Go.old (fun o12 => ?_)
 have f13 := hf0.keep Kh2
 have f14 := f13.keep Kh7
 have f15 := hf1.keep Kh2 Ow.nin0
 have f16 := f15.keep Kh7 (Ow.ninS (by omega) Ow.nin0)
 have f17 := hf2.keep Kh2 Ow.nin0
 have f18 := f17.keep Kh7 (Ow.ninS (by omega) Ow.nin0)
 have f19 := hf3.keep Kh2 Ow.nin0
 have f20 := f19.keep Kh7 (Ow.ninS (by omega) Ow.nin0)
 refine Ow.callVirtual (pc' := 47) (W := 0) (k' := 1) (n' := 3) (argsL := [(.int 47), (.int 0)]) (rest := []) (K := "java/lang/String") B e37_44 (w172 hw) (w173 hw) (w175 hw) (w175 hw) (w174 hw) (w6 hw) (w176 hw) f14 (con_indexOf_35 hw G GS (pa0 := pa0) (pa1 := pa1) (px0 := px0) (pk0 := pk0) o12 f14 f16 f18 f20 (hk0)) pd22 ?_
 intro vq21 h22 S23 q21 zh22
 obtain ⟨rfl, rfl, rfl⟩ := q21
 refine Ow.Go.nr (S' := [a1, pa0]) (st' := [(.int (-1))]) ?_
 refine Ow.dup (pc' := 48) B e37_47 ?_
 refine Ow.istore (pc' := 50) (Ls' := #[.val (.ref pa0), .val (.int 47), .val (.int (-1)), .val (.int 0), .val (.int 0), .val (.int 0), .val (.int (-1)), .val (.int 0), .val (.ref a1), .val .null, .unset, .unset]) B e37_48 ?_
 refine Ow.iconst (pc' := 51) (x := (-1 : Int32)) B e37_50 ?_
 refine Ow.icmpT (pc' := 135) B e37_51 (by decide) ?_
 refine Ow.iload (pc' := 137) B e37_135 ?_
 refine Ow.ifF (pc' := 140) B e37_137 (by decide) ?_
 refine Ow.iconst (pc' := 141) (x := 1) B e37_140 ?_
 refine Ow.newArrR (pc' := 144) (k' := 2) (n' := 4) (cap := 1) B e37_141 (w86 hw) (w224 hw) (by decide) (by decide) ?_
 intro h25 a24 ka24 ga24 ba24 Kh25 V0a24 Oa24
 have zh25 := Kh25.1
 have la24 : (a24 : Nat) < h25.size := V0a24.lt
 have Va24 : Arv Z h25 a24 ka24 (.object "java/lang/String") (1 : Int32) [.null] .null := V0a24.pad (pad_rep [] .null 1)
 refine Ow.dup (pc' := 145) B e37_144 ?_
 refine Ow.iconst (pc' := 146) (x := 0) B e37_145 ?_
 refine Ow.aloadN (pc' := 147) B e37_146 ?_
 have f27 := f14.keep Kh25
 refine Ow.aastore (pc' := 148) (i := 0) B e37_147 Va24 Oa24 (Ins.self f27) ⟨by decide, by decide⟩ ?_
 intro h26 Kh26 V28
 have zh26 := Kh26.1
 have V28 : Arv Z h26 a24 ka24 (.object "java/lang/String") (1 : Int32) [(.ref pa0)] .null := V28
 exact Ow.retA (S' := []) (t := (.array (.object "java/lang/String"))) B e37_148 (⟨a24, ka24, rfl, (((((Keep.refl _ []).trans Kh2 (fun _ q => nomatch q)).trans Kh7 (allS (Or.inr (by omega)) all0)).trans Kh25 (fun _ q => nomatch q)).trans Kh26 (allS (Or.inr (by omega)) all0)), (by omega), V28, rfl⟩)
set_option maxRecDepth 65536 in
set_option maxHeartbeats 40000000 in
theorem con_split_37 (hw : Hw a0 Z) (G : Ow.Glo Z cz sf) {u0 u1 u2 : Nat} (GS : GlS Z u0 u1 u2) {pa0 : Nat} {pa1 : Nat} {pa2 : Nat} {pa3 : Nat} {px0 : Int32} {pk0 : ClassId} {pk1 : ClassId} {h0 : Heap} (O0 : Old Z n0 h0) (hf0 : Exa Z h0 pa0 "java/lang/String") (hf1 : Fld Z h0 pa0 "java/lang/String" "coder" "B" (.int 0)) (hf2 : Fld Z h0 pa0 "java/lang/String" "value" "[B" (.ref pa2)) (hf3 : Exa Z h0 pa1 "java/lang/String") (hf4 : Fld Z h0 pa1 "java/lang/String" "coder" "B" (.int 0)) (hf5 : Fld Z h0 pa1 "java/lang/String" "value" "[B" (.ref pa3)) (hf6 : Arv Z h0 pa2 pk0 .byte (1 : Int32) [(.int px0.toInt8.toInt32)] (.int 0)) (hf7 : Arv Z h0 pa3 pk1 .byte (1 : Int32) [(.int 47)] (.int 0)) (hk0 : alP px0) :
    Ow.Con l Z EL1 n0 my35 jdk_42_method_103_code 6 (Option.some (Jvm.ClassFile.FieldType.array (Jvm.ClassFile.FieldType.object "java/lang/String"))) [] ({ frames := 5, cells := 4, slots := 56, locals := 72 } : Room) #[(.ref pa0), (.ref pa1), (.int (-1)), (.int 0)] [pa0] h0 (fun v h S' => (∃ r0 : Nat, ∃ k0 : ClassId, v = some (.ref r0) ∧ Keep h0 h [] ∧ h0.size ≤ r0 ∧ Arv Z h r0 k0 (.object "java/lang/String") (1 : Int32) [(.ref pa0)] .null ∧ S' = [])) := by
 refine Ow.Con.enter (Ls := #[.val (.ref pa0), .val (.ref pa1), .val (.int (-1)), .val (.int 0), .unset, .unset]) (plainFor_of_name pn1) O0 (hEW hw) (hSA hw) ?_
 intro p e s m below meth c B
 have z0 := Ow.old_le O0
 have lu0 : (u0 : Nat) < n0 := O0.1 ▸ GS.2.1.lt
 have lu1 : (u1 : Nat) < n0 := O0.1 ▸ GS.2.2.2.2.1.lt
 have lu2 : (u2 : Nat) < n0 := O0.1 ▸ GS.2.2.2.2.2.2.lt
 have lpa0 : (pa0 : Nat) < h0.size := hf0.lt
 have lpa1 : (pa1 : Nat) < h0.size := hf3.lt
 have lpa2 : (pa2 : Nat) < h0.size := hf6.lt
 have lpa3 : (pa3 : Nat) < h0.size := hf7.lt
 refine Ow.iconst (pc' := 1) (x := 0) B e24_0 ?_
 refine Ow.istore (pc' := 3) (Ls' := #[.val (.ref pa0), .val (.ref pa1), .val (.int (-1)), .val (.int 0), .val (.int 0), .unset]) B e24_1 ?_
 refine Ow.aloadN (pc' := 4) B e24_3 ?_
 refine Ow.Go.old (fun o1 => ?_)
 refine Ow.callVirtual (pc' := 7) (W := 0) (k' := 0) (n' := 0) (argsL := []) (rest := []) (K := "java/lang/String") B e24_4 (w104 hw) (w105 hw) (w107 hw) (w107 hw) (w106 hw) (w6 hw) (w108 hw) hf3 (con_length_6 hw G GS (pa0 := pa1) (pa1 := pa3) (pk0 := pk1) o1 hf3 hf4 hf5 hf7) pd9 ?_
 intro vq2 h3 S4 q2 zh3
 obtain ⟨rfl, rfl, rfl⟩ := q2
 refine Ow.Go.nr (S' := [pa0]) (st' := [(.int 1)]) ?_
 refine Ow.iconst (pc' := 8) (x := 1) B e24_7 ?_
 refine Ow.icmpF (pc' := 11) B e24_8 (by decide) ?_
 refine Ow.ldcTextW (pc' := 14) (k' := 2) (n' := 52) (nn := 48) (vs := [(.int 46), (.int 36), (.int 124), (.int 40), (.int 41), (.int 91), (.int 123), (.int 94), (.int 63), (.int 42), (.int 43), (.int 92)]) (z := 12) B e24_11 (w147 hw) (by decide) ⟨by decide, by decide⟩ (by decide) (by decide) ?_
 intro h6 a5 t7 kt7 Kh6 Ea5 Ca5 Va5 At7 Na5
 have zh6 := Kh6.1
 have la5 : (a5 : Nat) < h6.size := Ea5.lt
 have lt7 : (t7 : Nat) < h6.size := At7.lt
 have n8 : (pa0 : Nat) ≠ a5 ∧ (pa0 : Nat) ≠ t7 := Na5 pa0 (by simp)
 refine Ow.aloadN (pc' := 15) B e24_14 ?_
 refine Ow.iconst (pc' := 16) (x := 0) B e24_15 ?_
 refine Ow.Go.old (fun o9 => ?_)
 have f10 := hf3.keep Kh6
 have f11 := hf4.keep Kh6 Ow.nin0
 have f12 := hf5.keep Kh6 Ow.nin0
 have f13 := hf7.keep Kh6 Ow.nin0
 refine Ow.callVirtual (pc' := 19) (W := 1) (k' := 2) (n' := 52) (argsL := [(.int 0)]) (rest := [(.ref a5)]) (K := "java/lang/String") B e24_16 (w148 hw) (w149 hw) (w151 hw) (w151 hw) (w150 hw) (w6 hw) (w152 hw) f10 (con_charAt_19 hw G GS (pa0 := pa1) (pa1 := pa3) (pk0 := pk1) o9 f10 f11 f12 f13) pd4 ?_
 intro vq14 h15 S16 q14 zh15
 obtain ⟨rfl, rfl, rfl⟩ := q14
 refine Ow.Go.nr (S' := [pa0]) (st' := [(.int 47), (.ref a5)]) ?_
 refine Ow.dup (pc' := 20) B e24_19 ?_
 refine Ow.istore (pc' := 22) (Ls' := #[.val (.ref pa0), .val (.ref pa1), .val (.int (-1)), .val (.int 0), .val (.int 47), .unset]) B e24_20 ?_
 refine Ow.Go.old (fun o17 => ?_)
 refine Ow.callVirtual (pc' := 25) (W := 0) (k' := 2) (n' := 52) (argsL := [(.int 47)]) (rest := []) (K := "java/lang/String") B e24_22 (w167 hw) (w168 hw) (w170 hw) (w170 hw) (w169 hw) (w6 hw) (w171 hw) Ea5 (con_indexOf_27 hw G GS (pa0 := a5) (pa1 := t7) (pk0 := kt7) o17 Ea5 Ca5 Va5 At7) pd24 ?_
 intro vq18 h19 S20 q18 zh19
 obtain ⟨rfl, rfl, rfl⟩ := q18
 refine Ow.Go.nr (S' := [pa0]) (st' := [(.int (-1))]) ?_
 refine Ow.iconst (pc' := 26) (x := (-1 : Int32)) B e24_25 ?_
 refine Ow.icmpT (pc' := 95) B e24_26 (by decide) ?_
 refine Ow.iload (pc' := 97) B e24_95 ?_
 refine Ow.ldcIntW (pc' := 100) B e24_97 (w193 hw) ?_
 refine Ow.icmpT (pc' := 111) B e24_100 (by decide) ?_
 refine Ow.aloadN (pc' := 112) B e24_111 ?_
 refine Ow.iload (pc' := 114) B e24_112 ?_
 refine Ow.iloadN (pc' := 115) B e24_114 ?_
 refine Ow.iloadN (pc' := 116) B e24_115 ?_
 refine Ow.Go.old (fun o21 => ?_)
 have f22 := hf0.keep Kh6
 have f23 := hf1.keep Kh6 Ow.nin0
 have f24 := hf2.keep Kh6 Ow.nin0
 have f25 := hf6.keep Kh6 Ow.nin0
 refine Ow.callPrivate (pc' := 119) (W := 0) (k' := 4) (n' := 56) (argsL := [(.int 47), (.int (-1)), (.int 0)]) (rest := []) (K := "java/lang/String") B e24_116 (w194 hw) (w195 hw) (w196 hw) (w5 hw) (w6 hw) (w198 hw) f22 (con_split_36 hw G GS (pa0 := pa0) (pa1 := pa2) (px0 := px0) (pk0 := pk0) o21 f22 f23 f24 f25 (hk0)) pd26 ?_
 intro vq26 h27 S28 q26 zh27
 obtain ⟨r29, k30, rfl, Kh27, br29, f31, rfl⟩ := q26
 have lr29 : (r29 : Nat) < h27.size := f31.lt
 refine Ow.Go.nr (S' := [pa0]) (st' := [(.ref r29)]) ?_
 exact Ow.retA (S' := []) (t := (.array (.object "java/lang/String"))) B e24_119 (⟨r29, k30, rfl, (((Keep.refl _ []).trans Kh6 (fun _ q => nomatch q)).trans Kh27 (fun _ q => nomatch q)), (by omega), f31, rfl⟩)
set_option maxRecDepth 65536 in
set_option maxHeartbeats 40000000 in
theorem con_split_38 (hw : Hw a0 Z) (G : Ow.Glo Z cz sf) {u0 u1 u2 : Nat} (GS : GlS Z u0 u1 u2) {pa0 : Nat} {pa1 : Nat} {pa2 : Nat} {pa3 : Nat} {px0 : Int32} {pk0 : ClassId} {pk1 : ClassId} {h0 : Heap} (O0 : Old Z n0 h0) (hf0 : Exa Z h0 pa0 "java/lang/String") (hf1 : Fld Z h0 pa0 "java/lang/String" "coder" "B" (.int 0)) (hf2 : Fld Z h0 pa0 "java/lang/String" "value" "[B" (.ref pa2)) (hf3 : Exa Z h0 pa1 "java/lang/String") (hf4 : Fld Z h0 pa1 "java/lang/String" "coder" "B" (.int 0)) (hf5 : Fld Z h0 pa1 "java/lang/String" "value" "[B" (.ref pa3)) (hf6 : Arv Z h0 pa2 pk0 .byte (1 : Int32) [(.int px0.toInt8.toInt32)] (.int 0)) (hf7 : Arv Z h0 pa3 pk1 .byte (1 : Int32) [(.int 47)] (.int 0)) (hk0 : alP px0) :
    Ow.Con l Z EL1 n0 my36 jdk_42_method_101_code 3 (Option.some (Jvm.ClassFile.FieldType.array (Jvm.ClassFile.FieldType.object "java/lang/String"))) [] ({ frames := 6, cells := 4, slots := 56, locals := 89 } : Room) #[(.ref pa0), (.ref pa1), (.int (-1))] [pa0] h0 (fun v h S' => (∃ r0 : Nat, ∃ k0 : ClassId, v = some (.ref r0) ∧ Keep h0 h [] ∧ h0.size ≤ r0 ∧ Arv Z h r0 k0 (.object "java/lang/String") (1 : Int32) [(.ref pa0)] .null ∧ S' = [])) := by
 refine Ow.Con.enter (Ls := #[.val (.ref pa0), .val (.ref pa1), .val (.int (-1))]) (plainFor_of_name pn1) O0 (hEW hw) (hSA hw) ?_
 intro p e s m below meth c B
 have z0 := Ow.old_le O0
 have lu0 : (u0 : Nat) < n0 := O0.1 ▸ GS.2.1.lt
 have lu1 : (u1 : Nat) < n0 := O0.1 ▸ GS.2.2.2.2.1.lt
 have lu2 : (u2 : Nat) < n0 := O0.1 ▸ GS.2.2.2.2.2.2.lt
 have lpa0 : (pa0 : Nat) < h0.size := hf0.lt
 have lpa1 : (pa1 : Nat) < h0.size := hf3.lt
 have lpa2 : (pa2 : Nat) < h0.size := hf6.lt
 have lpa3 : (pa3 : Nat) < h0.size := hf7.lt
 refine Ow.aloadN (pc' := 1) B e23_0 ?_
 refine Ow.aloadN (pc' := 2) B e23_1 ?_
 refine Ow.iloadN (pc' := 3) B e23_2 ?_
 refine Ow.iconst (pc' := 4) (x := 0) B e23_3 ?_
 refine Ow.Go.old (fun o1 => ?_)
 refine Ow.callPrivate (pc' := 7) (W := 0) (k' := 4) (n' := 56) (argsL := [(.ref pa1), (.int (-1)), (.int 0)]) (rest := []) (K := "java/lang/String") B e23_4 (w142 hw) (w143 hw) (w144 hw) (w5 hw) (w6 hw) (w146 hw) hf0 (con_split_37 hw G GS (pa0 := pa0) (pa1 := pa1) (pa2 := pa2) (pa3 := pa3) (px0 := px0) (pk0 := pk0) (pk1 := pk1) o1 hf0 hf1 hf2 hf3 hf4 hf5 hf6 hf7 (hk0)) pd27 ?_
 intro vq2 h3 S4 q2 zh3
 obtain ⟨r5, k6, rfl, Kh3, br5, f7, rfl⟩ := q2
 have lr5 : (r5 : Nat) < h3.size := f7.lt
 refine Ow.Go.nr (S' := [pa0]) (st' := [(.ref r5)]) ?_
 exact Ow.retA (S' := []) (t := (.array (.object "java/lang/String"))) B e23_7 (⟨r5, k6, rfl, ((Keep.refl _ []).trans Kh3 (fun _ q => nomatch q)), (by omega), f7, rfl⟩)
set_option maxRecDepth 65536 in
set_option maxHeartbeats 40000000 in
theorem con_isEmpty_39 (hw : Hw a0 Z) (G : Ow.Glo Z cz sf) {u0 u1 u2 : Nat} (GS : GlS Z u0 u1 u2) {pa0 : Nat} {pa1 : Nat} {px0 : Int32} {pk0 : ClassId} {h0 : Heap} (O0 : Old Z n0 h0) (hf0 : Fld Z h0 pa0 "java/lang/String" "value" "[B" (.ref pa1)) (hf1 : Arv Z h0 pa1 pk0 .byte (1 : Int32) [(.int px0.toInt8.toInt32)] (.int 0)) :
    Ow.Con l Z EL1 n0 my37 jdk_42_method_55_code 1 (Option.some Jvm.ClassFile.FieldType.boolean) [] ({ frames := 0, cells := 0, slots := 0, locals := 0 } : Room) #[(.ref pa0)] [pa0] h0 (fun v h S' => (v = some (.int 0) ∧ h = h0 ∧ S' = [])) := by
 refine Ow.Con.enter (Ls := #[.val (.ref pa0)]) (plainFor_of_name pn1) O0 (hEW hw) (hSA hw) ?_
 intro p e s m below meth c B
 have z0 := Ow.old_le O0
 have lu0 : (u0 : Nat) < n0 := O0.1 ▸ GS.2.1.lt
 have lu1 : (u1 : Nat) < n0 := O0.1 ▸ GS.2.2.2.2.1.lt
 have lu2 : (u2 : Nat) < n0 := O0.1 ▸ GS.2.2.2.2.2.2.lt
 have lpa0 : (pa0 : Nat) < h0.size := hf0.lt
 have lpa1 : (pa1 : Nat) < h0.size := hf1.lt
 refine Ow.aloadN (pc' := 1) B e43_0 ?_
 refine Ow.getfield (pc' := 4) B e43_1 (w35 hw) Via.refl hf0 ?_
 refine Ow.arrlen (pc' := 5) B e43_4 hf1 ?_
 refine Ow.ifT (pc' := 12) B e43_5 (by decide) ?_
 refine Ow.iconst (pc' := 13) (x := 0) B e43_12 ?_
 exact Ow.retI (S' := []) (t := .boolean) B e43_13 (⟨rfl, rfl, rfl⟩)
set_option maxRecDepth 65536 in
set_option maxHeartbeats 40000000 in
theorem con_charAt_40 (hw : Hw a0 Z) (G : Ow.Glo Z cz sf) {u0 u1 u2 : Nat} (GS : GlS Z u0 u1 u2) {pa0 : Nat} {px0 : Int32} {pk0 : ClassId} {h0 : Heap} (O0 : Old Z n0 h0) (hf0 : Arv Z h0 pa0 pk0 .byte (1 : Int32) [(.int px0.toInt8.toInt32)] (.int 0)) (hk0 : ¬ (px0 < (0 : Int32))) (hk1 : ¬ ((255 : Int32) < px0)) :
    Ow.Con l Z EL1 n0 my22 jdk_43_method_2_code 2 (Option.some Jvm.ClassFile.FieldType.char) [] ({ frames := 2, cells := 0, slots := 0, locals := 27 } : Room) #[(.ref pa0), (.int 0)] [] h0 (fun v h S' => (v = some (.int px0) ∧ h = h0 ∧ S' = [])) := by
 refine Ow.Con.enter (Ls := #[.val (.ref pa0), .val (.int 0)]) (plainFor_of_name pn5) O0 (hEW hw) (hSA hw) ?_
 intro p e s m below meth c B
 have z0 := Ow.old_le O0
 have lu0 : (u0 : Nat) < n0 := O0.1 ▸ GS.2.1.lt
 have lu1 : (u1 : Nat) < n0 := O0.1 ▸ GS.2.2.2.2.1.lt
 have lu2 : (u2 : Nat) < n0 := O0.1 ▸ GS.2.2.2.2.2.2.lt
 have lpa0 : (pa0 : Nat) < h0.size := hf0.lt
 refine Ow.iloadN (pc' := 1) B e27_0 ?_
 refine Ow.aloadN (pc' := 2) B e27_1 ?_
 refine Ow.arrlen (pc' := 3) B e27_2 hf0 ?_
 refine Ow.Go.old (fun o1 => ?_)
 refine Ow.callStatic (pc' := 6) (W := 0) (k' := 0) (n' := 0) (argsL := [(.int 0), (.int 1)]) (rest := []) B e27_3 (w161 hw) (w162 hw) (w6 hw) (w163 hw) (con_checkIndex_17 hw G GS (px0 := (0 : Int32)) (px1 := (1 : Int32)) o1 (by decide) (by decide)) pd19 ?_
 intro vq2 h3 S4 q2 zh3
 obtain ⟨rfl, rfl, rfl⟩ := q2
 refine Ow.Go.nr (S' := []) (st' := []) ?_
 refine Ow.aloadN (pc' := 7) B e27_6 ?_
 refine Ow.iloadN (pc' := 8) B e27_7 ?_
 refine Ow.baload (pc' := 9) B e27_8 hf0 ⟨by decide, by decide⟩ rfl ?_
 refine Ow.sipush (pc' := 12) (x := 255) B e27_9 ?_
 refine Ow.iand (pc' := 13) (z := px0) (hz := (Ow.b255 (hk0) (hk1))) B e27_12 ?_
 refine Ow.i2c (pc' := 14) (z := px0) (hz := (Ow.c_id (hk0) (hk1))) B e27_13 ?_
 exact Ow.retI (S' := []) (t := .char) (hnn := (Ow.cnarrow (Ow.nar_id (hk0) (hk1)))) B e27_14 (⟨rfl, rfl, rfl⟩)
set_option maxRecDepth 65536 in
set_option maxHeartbeats 40000000 in
theorem con_charAt_41 (hw : Hw a0 Z) (G : Ow.Glo Z cz sf) {u0 u1 u2 : Nat} (GS : GlS Z u0 u1 u2) {pa0 : Nat} {pa1 : Nat} {px0 : Int32} {pk0 : ClassId} {h0 : Heap} (O0 : Old Z n0 h0) (hf0 : Exa Z h0 pa0 "java/lang/String") (hf1 : Fld Z h0 pa0 "java/lang/String" "coder" "B" (.int 0)) (hf2 : Fld Z h0 pa0 "java/lang/String" "value" "[B" (.ref pa1)) (hf3 : Arv Z h0 pa1 pk0 .byte (1 : Int32) [(.int px0.toInt8.toInt32)] (.int 0)) (hk0 : ¬ (px0 < (0 : Int32))) (hk1 : ¬ ((255 : Int32) < px0)) :
    Ow.Con l Z EL1 n0 my23 jdk_42_method_56_code 2 (Option.some Jvm.ClassFile.FieldType.char) [] ({ frames := 3, cells := 0, slots := 0, locals := 40 } : Room) #[(.ref pa0), (.int 0)] [pa0] h0 (fun v h S' => (v = some (.int px0) ∧ h = h0 ∧ S' = [])) := by
 refine Ow.Con.enter (Ls := #[.val (.ref pa0), .val (.int 0)]) (plainFor_of_name pn1) O0 (hEW hw) (hSA hw) ?_
 intro p e s m below meth c B
 have z0 := Ow.old_le O0
 have lu0 : (u0 : Nat) < n0 := O0.1 ▸ GS.2.1.lt
 have lu1 : (u1 : Nat) < n0 := O0.1 ▸ GS.2.2.2.2.1.lt
 have lu2 : (u2 : Nat) < n0 := O0.1 ▸ GS.2.2.2.2.2.2.lt
 have lpa0 : (pa0 : Nat) < h0.size := hf0.lt
 have lpa1 : (pa1 : Nat) < h0.size := hf3.lt
 refine Ow.aloadN (pc' := 1) B e25_0 ?_
 refine Ow.Go.old (fun o1 => ?_)
 refine Ow.callVirtual (pc' := 4) (W := 0) (k' := 0) (n' := 0) (argsL := []) (rest := []) (K := "java/lang/String") B e25_1 (w153 hw) (w154 hw) (w156 hw) (w156 hw) (w155 hw) (w6 hw) (w157 hw) hf0 (con_isLatin1_31 hw G GS (pa0 := pa0) o1 hf1) pd17 ?_
 intro vq2 h3 S4 q2 zh3
 obtain ⟨rfl, rfl, rfl⟩ := q2
 refine Ow.Go.nr (S' := [pa0]) (st' := [(.int 1)]) ?_
 refine Ow.ifF (pc' := 7) B e25_4 (by decide) ?_
 refine Ow.aloadN (pc' := 8) B e25_7 ?_
 refine Ow.getfield (pc' := 11) B e25_8 (w35 hw) Via.refl hf2 ?_
 refine Ow.iloadN (pc' := 12) B e25_11 ?_
 refine Ow.Go.old (fun o5 => ?_)
 refine Ow.callStatic (pc' := 15) (W := 0) (k' := 0) (n' := 0) (argsL := [(.ref pa1), (.int 0)]) (rest := []) B e25_12 (w158 hw) (w159 hw) (w89 hw) (w160 hw) (con_charAt_40 hw G GS (pa0 := pa1) (px0 := px0) (pk0 := pk0) o5 hf3 (hk0) (hk1)) pd20 ?_
 intro vq6 h7 S8 q6 zh7
 obtain ⟨rfl, rfl, rfl⟩ := q6
 refine Ow.Go.nr (S' := [pa0]) (st' := [(.int px0)]) ?_
 exact Ow.retI (S' := []) (t := .char) (hnn := (Ow.cnarrow (Ow.nar_id (hk0) (hk1)))) B e25_15 (⟨rfl, rfl, rfl⟩)
set_option maxRecDepth 65536 in
set_option maxHeartbeats 40000000 in
theorem con_isAllowed_42 (hw : Hw a0 Z) (G : Ow.Glo Z cz sf) {u0 u1 u2 : Nat} (GS : GlS Z u0 u1 u2) {px0 : Int32} {h0 : Heap} (O0 : Old Z n0 h0) (hk0 : alP px0) :
    Ow.Con l Z EL1 n0 my38 prog_31_method_7_code 1 (Option.some Jvm.ClassFile.FieldType.boolean) [] ({ frames := 0, cells := 0, slots := 0, locals := 0 } : Room) #[(.int px0)] [] h0 (fun v h S' => (v = some (.int 1) ∧ h = h0 ∧ S' = [])) := by
 refine Ow.Con.enter (Ls := #[.val (.int px0)]) (plainFor_of_name pn4) O0 (hEW hw) (hSA hw) ?_
 intro p e s m below meth c B
 have z0 := Ow.old_le O0
 have lu0 : (u0 : Nat) < n0 := O0.1 ▸ GS.2.1.lt
 have lu1 : (u1 : Nat) < n0 := O0.1 ▸ GS.2.2.2.2.1.lt
 have lu2 : (u2 : Nat) < n0 := O0.1 ▸ GS.2.2.2.2.2.2.lt
 have i0 := hk0
 unfold alP at i0
 refine Ow.iloadN (pc' := 1) B e44_0 ?_
 refine Ow.bipush (pc' := 3) (x := 97) B e44_1 ?_
 by_cases c1 : px0 < (97 : Int32)
 ·have c1i := c1
  simp only [Int32.lt_iff_toInt_lt, ← Int32.toInt_inj, Int32.reduceToInt] at c1i
  refine Ow.icmpT (pc' := 12) B e44_3 (tlt c1).1 ?_
  refine Ow.iloadN (pc' := 13) B e44_12 ?_
  refine Ow.bipush (pc' := 15) (x := 65) B e44_13 ?_
  by_cases c2 : px0 < (65 : Int32)
  ·have c2i := c2
   simp only [Int32.lt_iff_toInt_lt, ← Int32.toInt_inj, Int32.reduceToInt] at c2i
   refine Ow.icmpT (pc' := 24) B e44_15 (tlt c2).1 ?_
   refine Ow.iloadN (pc' := 25) B e44_24 ?_
   refine Ow.bipush (pc' := 27) (x := 48) B e44_25 ?_
   by_cases c3 : px0 < (48 : Int32)
   ·have c3i := c3
    simp only [Int32.lt_iff_toInt_lt, ← Int32.toInt_inj, Int32.reduceToInt] at c3i
    refine Ow.icmpT (pc' := 36) B e44_27 (tlt c3).1 ?_
    refine Ow.iloadN (pc' := 37) B e44_36 ?_
    refine Ow.bipush (pc' := 39) (x := 45) B e44_37 ?_
    refine Ow.icmpT (pc' := 48) B e44_39 (teq ((by simp only [Int32.lt_iff_toInt_lt, ← Int32.toInt_inj, Int32.reduceToInt]; omega))).1 ?_
    refine Ow.iconst (pc' := 49) (x := 1) B e44_48 ?_
    refine Ow.goto (pc' := 53) B e44_49 ?_
    exact Ow.retI (S' := []) (t := .boolean) B e44_53 (⟨rfl, rfl, rfl⟩)
   ·have c3i := c3
    simp only [Int32.lt_iff_toInt_lt, ← Int32.toInt_inj, Int32.reduceToInt] at c3i
    refine Ow.icmpF (pc' := 30) B e44_27 (flt c3).1 ?_
    refine Ow.iloadN (pc' := 31) B e44_30 ?_
    refine Ow.bipush (pc' := 33) (x := 57) B e44_31 ?_
    refine Ow.icmpT (pc' := 48) B e44_33 (flt ((by simp only [Int32.lt_iff_toInt_lt, ← Int32.toInt_inj, Int32.reduceToInt]; omega))).2.2.2 ?_
    refine Ow.iconst (pc' := 49) (x := 1) B e44_48 ?_
    refine Ow.goto (pc' := 53) B e44_49 ?_
    exact Ow.retI (S' := []) (t := .boolean) B e44_53 (⟨rfl, rfl, rfl⟩)
  ·have c2i := c2
   simp only [Int32.lt_iff_toInt_lt, ← Int32.toInt_inj, Int32.reduceToInt] at c2i
   refine Ow.icmpF (pc' := 18) B e44_15 (flt c2).1 ?_
   refine Ow.iloadN (pc' := 19) B e44_18 ?_
   refine Ow.bipush (pc' := 21) (x := 90) B e44_19 ?_
   by_cases c4 : (90 : Int32) < px0
   ·have c4i := c4
    simp only [Int32.lt_iff_toInt_lt, ← Int32.toInt_inj, Int32.reduceToInt] at c4i
    refine Ow.icmpF (pc' := 24) B e44_21 (tlt c4).2.2.2 ?_
    refine Ow.iloadN (pc' := 25) B e44_24 ?_
    refine Ow.bipush (pc' := 27) (x := 48) B e44_25 ?_
    refine Ow.icmpF (pc' := 30) B e44_27 (flt ((by simp only [Int32.lt_iff_toInt_lt, ← Int32.toInt_inj, Int32.reduceToInt]; omega))).1 ?_
    refine Ow.iloadN (pc' := 31) B e44_30 ?_
    refine Ow.bipush (pc' := 33) (x := 57) B e44_31 ?_
    refine Ow.icmpF (pc' := 36) B e44_33 (tlt ((by simp only [Int32.lt_iff_toInt_lt, ← Int32.toInt_inj, Int32.reduceToInt]; omega))).2.2.2 ?_
    refine Ow.iloadN (pc' := 37) B e44_36 ?_
    refine Ow.bipush (pc' := 39) (x := 45) B e44_37 ?_
    refine Ow.icmpF (pc' := 42) B e44_39 (feq ((by simp only [Int32.lt_iff_toInt_lt, ← Int32.toInt_inj, Int32.reduceToInt]; omega))).1 ?_
    refine Ow.iloadN (pc' := 43) B e44_42 ?_
    refine Ow.bipush (pc' := 45) (x := 95) B e44_43 ?_
    refine Ow.icmpF (pc' := 48) B e44_45 (teq ((by simp only [Int32.lt_iff_toInt_lt, ← Int32.toInt_inj, Int32.reduceToInt]; omega))).2 ?_
    refine Ow.iconst (pc' := 49) (x := 1) B e44_48 ?_
    refine Ow.goto (pc' := 53) B e44_49 ?_
    exact Ow.retI (S' := []) (t := .boolean) B e44_53 (⟨rfl, rfl, rfl⟩)
   ·have c4i := c4
    simp only [Int32.lt_iff_toInt_lt, ← Int32.toInt_inj, Int32.reduceToInt] at c4i
    refine Ow.icmpT (pc' := 48) B e44_21 (flt c4).2.2.2 ?_
    refine Ow.iconst (pc' := 49) (x := 1) B e44_48 ?_
    refine Ow.goto (pc' := 53) B e44_49 ?_
    exact Ow.retI (S' := []) (t := .boolean) B e44_53 (⟨rfl, rfl, rfl⟩)
 ·have c1i := c1
  simp only [Int32.lt_iff_toInt_lt, ← Int32.toInt_inj, Int32.reduceToInt] at c1i
  refine Ow.icmpF (pc' := 6) B e44_3 (flt c1).1 ?_
  refine Ow.iloadN (pc' := 7) B e44_6 ?_
  refine Ow.bipush (pc' := 9) (x := 122) B e44_7 ?_
  refine Ow.icmpT (pc' := 48) B e44_9 (flt ((by simp only [Int32.lt_iff_toInt_lt, ← Int32.toInt_inj, Int32.reduceToInt]; omega))).2.2.2 ?_
  refine Ow.iconst (pc' := 49) (x := 1) B e44_48 ?_
  refine Ow.goto (pc' := 53) B e44_49 ?_
  exact Ow.retI (S' := []) (t := .boolean) B e44_53 (⟨rfl, rfl, rfl⟩)
set_option maxRecDepth 65536 in
set_option maxHeartbeats 40000000 in
theorem con_isSegment_43 (hw : Hw a0 Z) (G : Ow.Glo Z cz sf) {u0 u1 u2 : Nat} (GS : GlS Z u0 u1 u2) {pa0 : Nat} {pa1 : Nat} {px0 : Int32} {pk0 : ClassId} {h0 : Heap} (O0 : Old Z n0 h0) (hf0 : Exa Z h0 pa0 "java/lang/String") (hf1 : Fld Z h0 pa0 "java/lang/String" "coder" "B" (.int 0)) (hf2 : Fld Z h0 pa0 "java/lang/String" "value" "[B" (.ref pa1)) (hf3 : Arv Z h0 pa1 pk0 .byte (1 : Int32) [(.int px0.toInt8.toInt32)] (.int 0)) (hk0 : ¬ (px0 < (0 : Int32))) (hk1 : ¬ ((255 : Int32) < px0)) (hk2 : alP px0) :
    Ow.Con l Z EL1 n0 my39 prog_31_method_6_code 2 (Option.some Jvm.ClassFile.FieldType.boolean) [] ({ frames := 4, cells := 0, slots := 0, locals := 53 } : Room) #[(.ref pa0)] [pa0] h0 (fun v h S' => (v = some (.int 1) ∧ h = h0 ∧ S' = [])) := by
 refine Ow.Con.enter (Ls := #[.val (.ref pa0), .unset]) (plainFor_of_name pn4) O0 (hEW hw) (hSA hw) ?_
 intro p e s m below meth c B
 have z0 := Ow.old_le O0
 have lu0 : (u0 : Nat) < n0 := O0.1 ▸ GS.2.1.lt
 have lu1 : (u1 : Nat) < n0 := O0.1 ▸ GS.2.2.2.2.1.lt
 have lu2 : (u2 : Nat) < n0 := O0.1 ▸ GS.2.2.2.2.2.2.lt
 have lpa0 : (pa0 : Nat) < h0.size := hf0.lt
 have lpa1 : (pa1 : Nat) < h0.size := hf3.lt
 refine Ow.aloadN (pc' := 1) B e42_0 ?_
 refine Ow.Go.old (fun o1 => ?_)
 refine Ow.callVirtual (pc' := 4) (W := 0) (k' := 0) (n' := 0) (argsL := []) (rest := []) (K := "java/lang/String") B e42_1 (w231 hw) (w232 hw) (w234 hw) (w234 hw) (w233 hw) (w6 hw) (w235 hw) hf0 (con_isEmpty_39 hw G GS (pa0 := pa0) (pa1 := pa1) (px0 := px0) (pk0 := pk0) o1 hf2 hf3) pd17 ?_
 intro vq2 h3 S4 q2 zh3
 obtain ⟨rfl, rfl, rfl⟩ := q2
 refine Ow.Go.nr (S' := [pa0]) (st' := [(.int 0)]) ?_
 refine Ow.ifT (pc' := 9) B e42_4 (by decide) ?_
 refine Ow.iconst (pc' := 10) (x := 0) B e42_9 ?_
 refine Ow.istoreN (pc' := 11) (Ls' := #[.val (.ref pa0), .val (.int 0)]) B e42_10 ?_
 refine Ow.iloadN (pc' := 12) B e42_11 ?_
 refine Ow.aloadN (pc' := 13) B e42_12 ?_
 refine Ow.Go.old (fun o5 => ?_)
 refine Ow.callVirtual (pc' := 16) (W := 1) (k' := 0) (n' := 0) (argsL := []) (rest := [(.int 0)]) (K := "java/lang/String") B e42_13 (w123 hw) (w105 hw) (w107 hw) (w107 hw) (w106 hw) (w6 hw) (w108 hw) hf0 (con_length_4 hw G GS (pa0 := pa0) (pa1 := pa1) (px0 := px0) (pk0 := pk0) o5 hf0 hf1 hf2 hf3) pd9 ?_
 intro vq6 h7 S8 q6 zh7
 obtain ⟨rfl, rfl, rfl⟩ := q6
 refine Ow.Go.nr (S' := [pa0]) (st' := [(.int 1), (.int 0)]) ?_
 refine Ow.icmpF (pc' := 19) B e42_16 (by decide) ?_
 refine Ow.aloadN (pc' := 20) B e42_19 ?_
 refine Ow.iloadN (pc' := 21) B e42_20 ?_
 refine Ow.Go.old (fun o9 => ?_)
 refine Ow.callVirtual (pc' := 24) (W := 0) (k' := 0) (n' := 0) (argsL := [(.int 0)]) (rest := []) (K := "java/lang/String") B e42_21 (w236 hw) (w149 hw) (w151 hw) (w151 hw) (w150 hw) (w6 hw) (w152 hw) hf0 (con_charAt_41 hw G GS (pa0 := pa0) (pa1 := pa1) (px0 := px0) (pk0 := pk0) o9 hf0 hf1 hf2 hf3 (hk0) (hk1)) pd4 ?_
 intro vq10 h11 S12 q10 zh11
 obtain ⟨rfl, rfl, rfl⟩ := q10
 refine Ow.Go.nr (S' := [pa0]) (st' := [(.int px0)]) ?_
 refine Ow.Go.old (fun o13 => ?_)
 refine Ow.callStatic (pc' := 27) (W := 0) (k' := 0) (n' := 0) (argsL := [(.int px0)]) (rest := []) B e42_24 (w237 hw) (w238 hw) (w76 hw) (w239 hw) (con_isAllowed_42 hw G GS (px0 := px0) o13 (hk2)) pd29 ?_
 intro vq14 h15 S16 q14 zh15
 obtain ⟨rfl, rfl, rfl⟩ := q14
 refine Ow.Go.nr (S' := [pa0]) (st' := [(.int 1)]) ?_
 refine Ow.ifT (pc' := 32) B e42_27 (by decide) ?_
 refine Ow.iinc (pc' := 35) (y := 1) (Ls' := #[.val (.ref pa0), .val (.int 1)]) B e42_32 ?_
 refine Ow.goto (pc' := 11) B e42_35 ?_
 refine Ow.iloadN (pc' := 12) B e42_11 ?_
 refine Ow.aloadN (pc' := 13) B e42_12 ?_
 refine Ow.Go.old (fun o17 => ?_)
 refine Ow.callVirtual (pc' := 16) (W := 1) (k' := 0) (n' := 0) (argsL := []) (rest := [(.int 1)]) (K := "java/lang/String") B e42_13 (w123 hw) (w105 hw) (w107 hw) (w107 hw) (w106 hw) (w6 hw) (w108 hw) hf0 (con_length_4 hw G GS (pa0 := pa0) (pa1 := pa1) (px0 := px0) (pk0 := pk0) o17 hf0 hf1 hf2 hf3) pd9 ?_
 intro vq18 h19 S20 q18 zh19
 obtain ⟨rfl, rfl, rfl⟩ := q18
 refine Ow.Go.nr (S' := [pa0]) (st' := [(.int 1), (.int 1)]) ?_
 refine Ow.icmpT (pc' := 38) B e42_16 (by decide) ?_
 refine Ow.iconst (pc' := 39) (x := 1) B e42_38 ?_
 exact Ow.retI (S' := []) (t := .boolean) B e42_39 (⟨rfl, rfl, rfl⟩)
set_option maxRecDepth 65536 in
set_option maxHeartbeats 40000000 in
theorem con_firstInvalid_44 (hw : Hw a0 Z) (G : Ow.Glo Z cz sf) {u0 u1 u2 : Nat} (GS : GlS Z u0 u1 u2) {pa0 : Nat} {pa1 : Nat} {pa2 : Nat} {px0 : Int32} {pk0 : ClassId} {pk1 : ClassId} {h0 : Heap} (O0 : Old Z n0 h0) (hf0 : Arv Z h0 pa0 pk0 (.object "java/lang/String") (1 : Int32) [(.ref pa1)] .null) (hf1 : Exa Z h0 pa1 "java/lang/String") (hf2 : Fld Z h0 pa1 "java/lang/String" "coder" "B" (.int 0)) (hf3 : Fld Z h0 pa1 "java/lang/String" "value" "[B" (.ref pa2)) (hf4 : Arv Z h0 pa2 pk1 .byte (1 : Int32) [(.int px0.toInt8.toInt32)] (.int 0)) (hn0 : n0 ≤ pa0) (hk0 : ¬ (px0 < (0 : Int32))) (hk1 : ¬ ((255 : Int32) < px0)) (hk2 : alP px0) :
    Ow.Con l Z EL1 n0 my40 prog_31_method_5_code 2 (Option.some Jvm.ClassFile.FieldType.int) [] ({ frames := 5, cells := 0, slots := 0, locals := 66 } : Room) #[(.ref pa0)] [pa1] h0 (fun v h S' => (v = some (.int (-1)) ∧ h = h0 ∧ S' = [])) := by
 refine Ow.Con.enter (Ls := #[.val (.ref pa0), .unset]) (plainFor_of_name pn4) O0 (hEW hw) (hSA hw) ?_
 intro p e s m below meth c B
 have z0 := Ow.old_le O0
 have lu0 : (u0 : Nat) < n0 := O0.1 ▸ GS.2.1.lt
 have lu1 : (u1 : Nat) < n0 := O0.1 ▸ GS.2.2.2.2.1.lt
 have lu2 : (u2 : Nat) < n0 := O0.1 ▸ GS.2.2.2.2.2.2.lt
 have lpa0 : (pa0 : Nat) < h0.size := hf0.lt
 have lpa1 : (pa1 : Nat) < h0.size := hf1.lt
 have lpa2 : (pa2 : Nat) < h0.size := hf4.lt
 refine Ow.iconst (pc' := 1) (x := 0) B e41_0 ?_
 refine Ow.istoreN (pc' := 2) (Ls' := #[.val (.ref pa0), .val (.int 0)]) B e41_1 ?_
 refine Ow.iloadN (pc' := 3) B e41_2 ?_
 refine Ow.aloadN (pc' := 4) B e41_3 ?_
 refine Ow.arrlen (pc' := 5) B e41_4 hf0 ?_
 refine Ow.icmpF (pc' := 8) B e41_5 (by decide) ?_
 refine Ow.aloadN (pc' := 9) B e41_8 ?_
 refine Ow.iloadN (pc' := 10) B e41_9 ?_
 refine Ow.aaload (pc' := 11) B e41_10 rfl hf0 ⟨by decide, by decide⟩ rfl ?_
 refine Ow.Go.old (fun o1 => ?_)
 refine Ow.callStatic (pc' := 14) (W := 0) (k' := 0) (n' := 0) (argsL := [(.ref pa1)]) (rest := []) B e41_11 (w228 hw) (w229 hw) (w76 hw) (w230 hw) (con_isSegment_43 hw G GS (pa0 := pa1) (pa1 := pa2) (px0 := px0) (pk0 := pk1) o1 hf1 hf2 hf3 hf4 (hk0) (hk1) (hk2)) pd12 ?_
 intro vq2 h3 S4 q2 zh3
 obtain ⟨rfl, rfl, rfl⟩ := q2
 refine Ow.Go.nr (S' := [pa1]) (st' := [(.int 1)]) ?_
 refine Ow.ifT (pc' := 19) B e41_14 (by decide) ?_
 refine Ow.iinc (pc' := 22) (y := 1) (Ls' := #[.val (.ref pa0), .val (.int 1)]) B e41_19 ?_
 refine Ow.goto (pc' := 2) B e41_22 ?_
 refine Ow.iloadN (pc' := 3) B e41_2 ?_
 refine Ow.aloadN (pc' := 4) B e41_3 ?_
 refine Ow.arrlen (pc' := 5) B e41_4 hf0 ?_
 refine Ow.icmpT (pc' := 25) B e41_5 (by decide) ?_
 refine Ow.iconst (pc' := 26) (x := (-1 : Int32)) B e41_25 ?_
 exact Ow.retI (S' := []) (t := .int) B e41_26 (⟨rfl, rfl, rfl⟩)
set_option maxRecDepth 65536 in
set_option maxHeartbeats 40000000 in
theorem con_init_45 (hw : Hw a0 Z) (G : Ow.Glo Z cz sf) {u0 u1 u2 : Nat} (GS : GlS Z u0 u1 u2) {pa0 : Nat} {h0 : Heap} (O0 : Old Z n0 h0) :
    Ow.Con l Z EL1 n0 my41 jdk_47_method_1_code 1 (Option.none : Option Jvm.ClassFile.FieldType) [] ({ frames := 2, cells := 0, slots := 0, locals := 24 } : Room) #[(.ref pa0)] [] h0 (fun v h S' => (v = none ∧ h = h0 ∧ S' = [])) := by
 refine Ow.Con.enter (Ls := #[.val (.ref pa0)]) (plainFor_of_name pn14) O0 (hEW hw) (hSA hw) ?_
 intro p e s m below meth c B
 have z0 := Ow.old_le O0
 have lu0 : (u0 : Nat) < n0 := O0.1 ▸ GS.2.1.lt
 have lu1 : (u1 : Nat) < n0 := O0.1 ▸ GS.2.2.2.2.1.lt
 have lu2 : (u2 : Nat) < n0 := O0.1 ▸ GS.2.2.2.2.2.2.lt
 refine Ow.aloadN (pc' := 1) B e48_0 ?_
 refine Ow.Go.old (fun o1 => ?_)
 refine Ow.callInit (pc' := 4) (W := 0) (k' := 0) (n' := 0) (argsL := []) (rest := []) B e48_1 (w265 hw) (w213 hw) (w216 hw) (w217 hw) (con_init_28 hw G GS (pa0 := pa0) o1) pd25 ?_
 intro vq2 h3 S4 q2 zh3
 obtain ⟨rfl, rfl, rfl⟩ := q2
 refine Ow.Go.nr (S' := []) (st' := []) ?_
 exact Ow.retV (S' := []) B e48_4 (⟨rfl, rfl, rfl⟩)
set_option maxRecDepth 65536 in
set_option maxHeartbeats 40000000 in
theorem con_init_46 (hw : Hw a0 Z) (G : Ow.Glo Z cz sf) {u0 u1 u2 : Nat} (GS : GlS Z u0 u1 u2) {pa0 : Nat} {h0 : Heap} (O0 : Old Z n0 h0) :
    Ow.Con l Z EL1 n0 my42 jdk_46_method_1_code 1 (Option.none : Option Jvm.ClassFile.FieldType) [] ({ frames := 3, cells := 0, slots := 0, locals := 36 } : Room) #[(.ref pa0)] [] h0 (fun v h S' => (v = none ∧ h = h0 ∧ S' = [])) := by
 refine Ow.Con.enter (Ls := #[.val (.ref pa0)]) (plainFor_of_name pn13) O0 (hEW hw) (hSA hw) ?_
 intro p e s m below meth c B
 have z0 := Ow.old_le O0
 have lu0 : (u0 : Nat) < n0 := O0.1 ▸ GS.2.1.lt
 have lu1 : (u1 : Nat) < n0 := O0.1 ▸ GS.2.2.2.2.1.lt
 have lu2 : (u2 : Nat) < n0 := O0.1 ▸ GS.2.2.2.2.2.2.lt
 refine Ow.aloadN (pc' := 1) B e47_0 ?_
 refine Ow.Go.old (fun o1 => ?_)
 refine Ow.callInit (pc' := 4) (W := 0) (k' := 0) (n' := 0) (argsL := []) (rest := []) B e47_1 (w259 hw) (w260 hw) (w263 hw) (w264 hw) (con_init_45 hw G GS (pa0 := pa0) o1) pd25 ?_
 intro vq2 h3 S4 q2 zh3
 obtain ⟨rfl, rfl, rfl⟩ := q2
 refine Ow.Go.nr (S' := []) (st' := []) ?_
 exact Ow.retV (S' := []) B e47_4 (⟨rfl, rfl, rfl⟩)
set_option maxRecDepth 65536 in
set_option maxHeartbeats 40000000 in
theorem con_requireNonNull_47 (hw : Hw a0 Z) (G : Ow.Glo Z cz sf) {u0 u1 u2 : Nat} (GS : GlS Z u0 u1 u2) {pa0 : Nat} {h0 : Heap} (O0 : Old Z n0 h0) :
    Ow.Con l Z EL1 n0 my43 jdk_31_method_10_code 1 (Option.some (Jvm.ClassFile.FieldType.object "java/lang/Object")) [] ({ frames := 0, cells := 0, slots := 0, locals := 0 } : Room) #[(.ref pa0)] [] h0 (fun v h S' => (v = some (.ref pa0) ∧ h = h0 ∧ S' = [])) := by
 refine Ow.Con.enter (Ls := #[.val (.ref pa0)]) (plainFor_of_name pn15) O0 (hEW hw) (hSA hw) ?_
 intro p e s m below meth c B
 have z0 := Ow.old_le O0
 have lu0 : (u0 : Nat) < n0 := O0.1 ▸ GS.2.1.lt
 have lu1 : (u1 : Nat) < n0 := O0.1 ▸ GS.2.2.2.2.1.lt
 have lu2 : (u2 : Nat) < n0 := O0.1 ▸ GS.2.2.2.2.2.2.lt
 refine Ow.aloadN (pc' := 1) B e49_0 ?_
 refine Ow.ifnonnullT (pc' := 12) B e49_1 ?_
 refine Ow.aloadN (pc' := 13) B e49_12 ?_
 exact Ow.retA (S' := []) (t := (.object "java/lang/Object")) B e49_13 (⟨rfl, rfl, rfl⟩)
set_option maxRecDepth 65536 in
set_option maxHeartbeats 40000000 in
theorem con_init_48 (hw : Hw a0 Z) (G : Ow.Glo Z cz sf) {u0 u1 u2 : Nat} (GS : GlS Z u0 u1 u2) {pa0 : Nat} {pa1 : Nat} {h0 : Heap} (O0 : Old Z n0 h0) (hf0 : Exa Z h0 pa0 "java/util/ImmutableCollections$List12") (hf1 : Fld Z h0 pa0 "java/util/ImmutableCollections$List12" "e0" "Ljava/lang/Object;" .null) (hf2 : Fld Z h0 pa0 "java/util/ImmutableCollections$List12" "e1" "Ljava/lang/Object;" .null) (hn0 : n0 ≤ pa0) :
    Ow.Con l Z EL1 n0 my44 jdk_44_method_1_code 2 (Option.none : Option Jvm.ClassFile.FieldType) [] ({ frames := 4, cells := 0, slots := 0, locals := 48 } : Room) #[(.ref pa0), (.ref pa1)] [] h0 (fun v h S' => (v = none ∧ Keep h0 h [pa0] ∧ Exa Z h pa0 "java/util/ImmutableCollections$List12" ∧ Fld Z h pa0 "java/util/ImmutableCollections$List12" "e0" "Ljava/lang/Object;" (.ref pa1) ∧ Fld Z h pa0 "java/util/ImmutableCollections$List12" "e1" "Ljava/lang/Object;" (.ref u2) ∧ S' = [])) := by
 refine Ow.Con.enter (Ls := #[.val (.ref pa0), .val (.ref pa1)]) (plainFor_of_name pn12) O0 (hEW hw) (hSA hw) ?_
 intro p e s m below meth c B
 have z0 := Ow.old_le O0
 have lu0 : (u0 : Nat) < n0 := O0.1 ▸ GS.2.1.lt
 have lu1 : (u1 : Nat) < n0 := O0.1 ▸ GS.2.2.2.2.1.lt
 have lu2 : (u2 : Nat) < n0 := O0.1 ▸ GS.2.2.2.2.2.2.lt
 have lpa0 : (pa0 : Nat) < h0.size := hf0.lt
 refine Ow.aloadN (pc' := 1) B e46_0 ?_
 refine Ow.Go.old (fun o1 => ?_)
 refine Ow.callInit (pc' := 4) (W := 0) (k' := 0) (n' := 0) (argsL := []) (rest := []) B e46_1 (w253 hw) (w254 hw) (w257 hw) (w258 hw) (con_init_46 hw G GS (pa0 := pa0) o1) pd25 ?_
 intro vq2 h3 S4 q2 zh3
 obtain ⟨rfl, rfl, rfl⟩ := q2
 refine Ow.Go.nr (S' := []) (st' := []) ?_
 refine Ow.aloadN (pc' := 5) B e46_4 ?_
 refine Ow.aloadN (pc' := 6) B e46_5 ?_
 refine Ow.Go.old (fun o5 => ?_)
 refine Ow.callStatic (pc' := 9) (W := 1) (k' := 0) (n' := 0) (argsL := [(.ref pa1)]) (rest := [(.ref pa0)]) B e46_6 (w267 hw) (w268 hw) (w269 hw) (w270 hw) (con_requireNonNull_47 hw G GS (pa0 := pa1) o5) pd31 ?_
 intro vq6 h7 S8 q6 zh7
 obtain ⟨rfl, rfl, rfl⟩ := q6
 refine Ow.Go.nr (S' := []) (st' := [(.ref pa1), (.ref pa0)]) ?_
 refine Ow.putfield (pc' := 12) (ty := (.object "java/lang/Object")) B e46_9 (w271 hw) Via.refl hf1 hf0 (Or.inr ⟨(w272 hw), rfl, rfl⟩) (w247 hw) (Or.inr ⟨by decide, by decide⟩) ?_
 intro h9 Wh9
 have Kh9 := Keep.of_wr Wh9
 have zh9 := Kh9.1
 have f10 : Fld Z h9 pa0 "java/util/ImmutableCollections$List12" "e0" "Ljava/lang/Object;" (.ref pa1) := hf1.same Wh9
 have f11 : Fld Z h9 pa0 "java/util/ImmutableCollections$List12" "e1" "Ljava/lang/Object;" .null := hf2.other Wh9 (Or.inr (slot_ne (a0 := a0) (C := "java/util/ImmutableCollections$List12") (t := (.object "java/lang/Object")) (t' := (.object "java/lang/Object")) (Or.inr (w276 hw)) (Or.inr (w272 hw)) (by decide) (by decide) (by decide)))
 refine Ow.aloadN (pc' := 13) B e46_12 ?_
 refine Ow.getstaticN (pc' := 16) B e46_13 (w273 hw) Via.refl GS.2.2.2.2.2.1 ?_
 have f12 := hf0.keep Kh9
 refine Ow.putfield (pc' := 19) (ty := (.object "java/lang/Object")) B e46_16 (w275 hw) Via.refl f11 f12 (Or.inr ⟨(w276 hw), rfl, rfl⟩) (w247 hw) (Or.inr ⟨by decide, by decide⟩) ?_
 intro h13 Wh13
 have Kh13 := Keep.of_wr Wh13
 have zh13 := Kh13.1
 have f14 : Fld Z h13 pa0 "java/util/ImmutableCollections$List12" "e1" "Ljava/lang/Object;" (.ref u2) := f11.same Wh13
 have f15 : Fld Z h13 pa0 "java/util/ImmutableCollections$List12" "e0" "Ljava/lang/Object;" (.ref pa1) := f10.other Wh13 (Or.inr (slot_ne (a0 := a0) (C := "java/util/ImmutableCollections$List12") (t := (.object "java/lang/Object")) (t' := (.object "java/lang/Object")) (Or.inr (w272 hw)) (Or.inr (w276 hw)) (by decide) (by decide) (by decide)))
 have f16 := f12.keep Kh13
 exact Ow.retV (S' := []) B e46_19 (⟨rfl, (((Keep.refl _ [pa0]).trans Kh9 (allS (Or.inl (by simp)) all0)).trans Kh13 (allS (Or.inl (by simp)) all0)), f16, f15, f14, rfl⟩)
set_option maxRecDepth 65536 in
set_option maxHeartbeats 40000000 in
theorem con_of_49 (hw : Hw a0 Z) (G : Ow.Glo Z cz sf) {u0 u1 u2 : Nat} (GS : GlS Z u0 u1 u2) {pa0 : Nat} {pa1 : Nat} {pk0 : ClassId} {h0 : Heap} (O0 : Old Z n0 h0) (hf0 : Arv Z h0 pa0 pk0 (.object "java/lang/String") (1 : Int32) [(.ref pa1)] .null) (hn0 : n0 ≤ pa0) :
    Ow.Con l Z EL1 n0 my45 jdk_40_method_47_code 2 (Option.some (Jvm.ClassFile.FieldType.object "java/util/List")) [] ({ frames := 5, cells := 1, slots := 2, locals := 62 } : Room) #[(.ref pa0)] [] h0 (fun v h S' => (∃ r0 : Nat, v = some (.ref r0) ∧ Keep h0 h [] ∧ h0.size ≤ r0 ∧ Exa Z h r0 "java/util/ImmutableCollections$List12" ∧ Fld Z h r0 "java/util/ImmutableCollections$List12" "e0" "Ljava/lang/Object;" (.ref pa1) ∧ Fld Z h r0 "java/util/ImmutableCollections$List12" "e1" "Ljava/lang/Object;" (.ref u2) ∧ S' = [])) := by
 refine Ow.Con.enter (Ls := #[.val (.ref pa0), .unset]) (plainFor_of_name pn11) O0 (hEW hw) (hSA hw) ?_
 intro p e s m below meth c B
 have z0 := Ow.old_le O0
 have lu0 : (u0 : Nat) < n0 := O0.1 ▸ GS.2.1.lt
 have lu1 : (u1 : Nat) < n0 := O0.1 ▸ GS.2.2.2.2.1.lt
 have lu2 : (u2 : Nat) < n0 := O0.1 ▸ GS.2.2.2.2.2.2.lt
 have lpa0 : (pa0 : Nat) < h0.size := hf0.lt
 refine Ow.aloadN (pc' := 1) B e45_0 ?_
 refine Ow.arrlen (pc' := 2) B e45_1 hf0 ?_
 refine Ow.tsw (pc' := 34) (o := 32) B e45_2 (by decide) rfl ?_
 refine Ow.newObj (pc' := 37) (k' := 1) (n' := 2) B e45_34 (w246 hw) (w247 hw) (w248 hw) ?_
 intro h2 a1 ga1 ba1 Kh2 Aa1 Da1
 have zh2 := Kh2.1
 have la1 : (a1 : Nat) < h2.size := Aa1.lt
 have f3 : Fld Z h2 a1 "java/util/ImmutableCollections$List12" "e0" "Ljava/lang/Object;" .null := Da1 (Or.inr (w272 hw)) (ty := (.object "java/lang/Object")) (by decide)
 have f4 : Fld Z h2 a1 "java/util/ImmutableCollections$List12" "e1" "Ljava/lang/Object;" .null := Da1 (Or.inr (w276 hw)) (ty := (.object "java/lang/Object")) (by decide)
 refine Ow.dup (pc' := 38) B e45_37 ?_
 refine Ow.aloadN (pc' := 39) B e45_38 ?_
 refine Ow.iconst (pc' := 40) (x := 0) B e45_39 ?_
 have f5 := hf0.keep Kh2 Ow.nin0
 refine Ow.aaload (pc' := 41) B e45_40 rfl f5 ⟨by decide, by decide⟩ rfl ?_
 refine Ow.Go.old (fun o6 => ?_)
 refine Ow.callInit (pc' := 44) (W := 1) (k' := 1) (n' := 2) (argsL := [(.ref pa1)]) (rest := [(.ref a1)]) B e45_41 (w249 hw) (w250 hw) (w248 hw) (w252 hw) (con_init_48 hw G GS (pa0 := a1) (pa1 := pa1) o6 Aa1 f3 f4 (by omega)) pd32 ?_
 intro vq7 h8 S9 q7 zh8
 obtain ⟨rfl, Kh8, f10, f11, f12, rfl⟩ := q7
 refine Ow.Go.nr (S' := [a1]) (st' := [(.ref a1)]) ?_
 exact Ow.retA (S' := []) (t := (.object "java/util/List")) B e45_44 (⟨a1, rfl, (((Keep.refl _ []).trans Kh2 (fun _ q => nomatch q)).trans Kh8 (allS (Or.inr (by omega)) all0)), (by omega), f10, f11, f12, rfl⟩)
set_option maxRecDepth 65536 in
set_option maxHeartbeats 40000000 in
theorem con_init_50 (hw : Hw a0 Z) (G : Ow.Glo Z cz sf) {u0 u1 u2 : Nat} (GS : GlS Z u0 u1 u2) {pa0 : Nat} {pa1 : Nat} {pa2 : Nat} {h0 : Heap} (O0 : Old Z n0 h0) (hf0 : Exa Z h0 pa0 "com/example/ply3/ply3/Target") (hf1 : Fld Z h0 pa0 "com/example/ply3/ply3/Target" "name" "Ljava/lang/String;" .null) (hf2 : Fld Z h0 pa0 "com/example/ply3/ply3/Target" "segments" "Ljava/util/List;" .null) (hn0 : n0 ≤ pa0) :
    Ow.Con l Z EL1 n0 my46 prog_31_method_1_code 3 (Option.none : Option Jvm.ClassFile.FieldType) [] ({ frames := 1, cells := 0, slots := 0, locals := 12 } : Room) #[(.ref pa0), (.ref pa1), (.ref pa2)] [] h0 (fun v h S' => (v = none ∧ Keep h0 h [pa0] ∧ Exa Z h pa0 "com/example/ply3/ply3/Target" ∧ Fld Z h pa0 "com/example/ply3/ply3/Target" "name" "Ljava/lang/String;" (.ref pa1) ∧ Fld Z h pa0 "com/example/ply3/ply3/Target" "segments" "Ljava/util/List;" (.ref pa2) ∧ S' = [])) := by
 refine Ow.Con.enter (Ls := #[.val (.ref pa0), .val (.ref pa1), .val (.ref pa2)]) (plainFor_of_name pn4) O0 (hEW hw) (hSA hw) ?_
 intro p e s m below meth c B
 have z0 := Ow.old_le O0
 have lu0 : (u0 : Nat) < n0 := O0.1 ▸ GS.2.1.lt
 have lu1 : (u1 : Nat) < n0 := O0.1 ▸ GS.2.2.2.2.1.lt
 have lu2 : (u2 : Nat) < n0 := O0.1 ▸ GS.2.2.2.2.2.2.lt
 have lpa0 : (pa0 : Nat) < h0.size := hf0.lt
 refine Ow.aloadN (pc' := 1) B e50_0 ?_
 refine Ow.objInit (pc' := 4) (W := 0) B e50_1 (w280 hw) (w19 hw) (w20 hw) ?_
 refine Ow.aloadN (pc' := 5) B e50_4 ?_
 refine Ow.aloadN (pc' := 6) B e50_5 ?_
 refine Ow.putfield (pc' := 9) (ty := (.object "java/lang/String")) B e50_6 (w281 hw) Via.refl hf1 hf0 (Or.inr ⟨(w282 hw), rfl, rfl⟩) (w241 hw) (Or.inr ⟨by decide, by decide⟩) ?_
 intro h1 Wh1
 have Kh1 := Keep.of_wr Wh1
 have zh1 := Kh1.1
 have f2 : Fld Z h1 pa0 "com/example/ply3/ply3/Target" "name" "Ljava/lang/String;" (.ref pa1) := hf1.same Wh1
 have f3 : Fld Z h1 pa0 "com/example/ply3/ply3/Target" "segments" "Ljava/util/List;" .null := hf2.other Wh1 (Or.inr (slot_ne (a0 := a0) (C := "com/example/ply3/ply3/Target") (t := (.object "java/util/List")) (t' := (.object "java/lang/String")) (Or.inr (w284 hw)) (Or.inr (w282 hw)) (by decide) (by decide) (by decide)))
 refine Ow.aloadN (pc' := 10) B e50_9 ?_
 refine Ow.aloadN (pc' := 11) B e50_10 ?_
 have f4 := hf0.keep Kh1
 refine Ow.putfield (pc' := 14) (ty := (.object "java/util/List")) B e50_11 (w283 hw) Via.refl f3 f4 (Or.inr ⟨(w284 hw), rfl, rfl⟩) (w241 hw) (Or.inr ⟨by decide, by decide⟩) ?_
 intro h5 Wh5
 have Kh5 := Keep.of_wr Wh5
 have zh5 := Kh5.1
 have f6 : Fld Z h5 pa0 "com/example/ply3/ply3/Target" "segments" "Ljava/util/List;" (.ref pa2) := f3.same Wh5
 have f7 : Fld Z h5 pa0 "com/example/ply3/ply3/Target" "name" "Ljava/lang/String;" (.ref pa1) := f2.other Wh5 (Or.inr (slot_ne (a0 := a0) (C := "com/example/ply3/ply3/Target") (t := (.object "java/lang/String")) (t' := (.object "java/util/List")) (Or.inr (w282 hw)) (Or.inr (w284 hw)) (by decide) (by decide) (by decide)))
 have f8 := f4.keep Kh5
 exact Ow.retV (S' := []) B e50_14 (⟨rfl, (((Keep.refl _ [pa0]).trans Kh1 (allS (Or.inl (by simp)) all0)).trans Kh5 (allS (Or.inl (by simp)) all0)), f8, f7, f6, rfl⟩)
set_option maxRecDepth 65536 in
set_option maxHeartbeats 40000000 in
theorem con_init_51 (hw : Hw a0 Z) (G : Ow.Glo Z cz sf) {u0 u1 u2 : Nat} (GS : GlS Z u0 u1 u2) {pa0 : Nat} {pa1 : Nat} {h0 : Heap} (O0 : Old Z n0 h0) (hf0 : Exa Z h0 pa0 "java/util/Optional") (hf1 : Fld Z h0 pa0 "java/util/Optional" "value" "Ljava/lang/Object;" .null) (hn0 : n0 ≤ pa0) :
    Ow.Con l Z EL1 n0 my47 jdk_32_method_2_code 2 (Option.none : Option Jvm.ClassFile.FieldType) [] ({ frames := 1, cells := 0, slots := 0, locals := 12 } : Room) #[(.ref pa0), (.ref pa1)] [] h0 (fun v h S' => (v = none ∧ Keep h0 h [pa0] ∧ Exa Z h pa0 "java/util/Optional" ∧ Fld Z h pa0 "java/util/Optional" "value" "Ljava/lang/Object;" (.ref pa1) ∧ S' = [])) := by
 refine Ow.Con.enter (Ls := #[.val (.ref pa0), .val (.ref pa1)]) (plainFor_of_name pn16) O0 (hEW hw) (hSA hw) ?_
 intro p e s m below meth c B
 have z0 := Ow.old_le O0
 have lu0 : (u0 : Nat) < n0 := O0.1 ▸ GS.2.1.lt
 have lu1 : (u1 : Nat) < n0 := O0.1 ▸ GS.2.2.2.2.1.lt
 have lu2 : (u2 : Nat) < n0 := O0.1 ▸ GS.2.2.2.2.2.2.lt
 have lpa0 : (pa0 : Nat) < h0.size := hf0.lt
 refine Ow.aloadN (pc' := 1) B e52_0 ?_
 refine Ow.objInit (pc' := 4) (W := 0) B e52_1 (w295 hw) (w19 hw) (w20 hw) ?_
 refine Ow.aloadN (pc' := 5) B e52_4 ?_
 refine Ow.aloadN (pc' := 6) B e52_5 ?_
 refine Ow.putfield (pc' := 9) (ty := (.object "java/lang/Object")) B e52_6 (w61 hw) Via.refl hf1 hf0 (Or.inr ⟨(w62 hw), rfl, rfl⟩) (w289 hw) (Or.inr ⟨by decide, by decide⟩) ?_
 intro h1 Wh1
 have Kh1 := Keep.of_wr Wh1
 have zh1 := Kh1.1
 have f2 : Fld Z h1 pa0 "java/util/Optional" "value" "Ljava/lang/Object;" (.ref pa1) := hf1.same Wh1
 have f3 := hf0.keep Kh1
 exact Ow.retV (S' := []) B e52_9 (⟨rfl, ((Keep.refl _ [pa0]).trans Kh1 (allS (Or.inl (by simp)) all0)), f3, f2, rfl⟩)
set_option maxRecDepth 65536 in
set_option maxHeartbeats 40000000 in
theorem con_of_52 (hw : Hw a0 Z) (G : Ow.Glo Z cz sf) {u0 u1 u2 : Nat} (GS : GlS Z u0 u1 u2) {pa0 : Nat} {h0 : Heap} (O0 : Old Z n0 h0) :
    Ow.Con l Z EL1 n0 my48 jdk_32_method_3_code 1 (Option.some (Jvm.ClassFile.FieldType.object "java/util/Optional")) [] ({ frames := 2, cells := 1, slots := 1, locals := 26 } : Room) #[(.ref pa0)] [] h0 (fun v h S' => (∃ r0 : Nat, v = some (.ref r0) ∧ Keep h0 h [] ∧ h0.size ≤ r0 ∧ Exa Z h r0 "java/util/Optional" ∧ Fld Z h r0 "java/util/Optional" "value" "Ljava/lang/Object;" (.ref pa0) ∧ S' = [])) := by
 refine Ow.Con.enter (Ls := #[.val (.ref pa0)]) (plainFor_of_name pn16) O0 (hEW hw) (hSA hw) ?_
 intro p e s m below meth c B
 have z0 := Ow.old_le O0
 have lu0 : (u0 : Nat) < n0 := O0.1 ▸ GS.2.1.lt
 have lu1 : (u1 : Nat) < n0 := O0.1 ▸ GS.2.2.2.2.1.lt
 have lu2 : (u2 : Nat) < n0 := O0.1 ▸ GS.2.2.2.2.2.2.lt
 refine Ow.newObj (pc' := 3) (k' := 1) (n' := 1) B e51_0 (w288 hw) (w289 hw) (w53 hw) ?_
 intro h2 a1 ga1 ba1 Kh2 Aa1 Da1
 have zh2 := Kh2.1
 have la1 : (a1 : Nat) < h2.size := Aa1.lt
 have f3 : Fld Z h2 a1 "java/util/Optional" "value" "Ljava/lang/Object;" .null := Da1 (Or.inr (w62 hw)) (ty := (.object "java/lang/Object")) (by decide)
 refine Ow.dup (pc' := 4) B e51_3 ?_
 refine Ow.aloadN (pc' := 5) B e51_4 ?_
 refine Ow.Go.old (fun o4 => ?_)
 refine Ow.callStatic (pc' := 8) (W := 2) (k' := 1) (n' := 1) (argsL := [(.ref pa0)]) (rest := [(.ref a1), (.ref a1)]) B e51_5 (w290 hw) (w268 hw) (w269 hw) (w270 hw) (con_requireNonNull_47 hw G GS (pa0 := pa0) o4) pd31 ?_
 intro vq5 h6 S7 q5 zh6
 obtain ⟨rfl, rfl, rfl⟩ := q5
 refine Ow.Go.nr (S' := [a1]) (st' := [(.ref pa0), (.ref a1), (.ref a1)]) ?_
 refine Ow.Go.old (fun o8 => ?_)
 refine Ow.callInit (pc' := 11) (W := 1) (k' := 1) (n' := 1) (argsL := [(.ref pa0)]) (rest := [(.ref a1)]) B e51_8 (w291 hw) (w292 hw) (w53 hw) (w294 hw) (con_init_51 hw G GS (pa0 := a1) (pa1 := pa0) o8 Aa1 f3 (by omega)) pd32 ?_
 intro vq9 h10 S11 q9 zh10
 obtain ⟨rfl, Kh10, f12, f13, rfl⟩ := q9
 refine Ow.Go.nr (S' := [a1]) (st' := [(.ref a1)]) ?_
 exact Ow.retA (S' := []) (t := (.object "java/util/Optional")) B e51_11 (⟨a1, rfl, (((Keep.refl _ []).trans Kh2 (fun _ q => nomatch q)).trans Kh10 (allS (Or.inr (by omega)) all0)), (by omega), f12, f13, rfl⟩)
set_option maxRecDepth 65536 in
set_option maxHeartbeats 40000000 in
theorem con_parse_53 (hw : Hw a0 Z) (G : Ow.Glo Z cz sf) {u0 u1 u2 : Nat} (GS : GlS Z u0 u1 u2) {pa0 : Nat} {pa1 : Nat} {px0 : Int32} {pk0 : ClassId} {h0 : Heap} (O0 : Old Z n0 h0) (hf0 : Exa Z h0 pa0 "java/lang/String") (hf1 : Fld Z h0 pa0 "java/lang/String" "coder" "B" (.int 0)) (hf2 : Fld Z h0 pa0 "java/lang/String" "value" "[B" (.ref pa1)) (hf3 : Arv Z h0 pa1 pk0 .byte (1 : Int32) [(.int px0.toInt8.toInt32)] (.int 0)) (hk0 : ¬ (px0 < (0 : Int32))) (hk1 : ¬ ((255 : Int32) < px0)) (hk2 : alP px0) :
    Ow.Con l Z EL1 n0 my49 prog_31_method_2_code 3 (Option.some (Jvm.ClassFile.FieldType.object "java/util/Optional")) [] ({ frames := 7, cells := 15, slots := 93, locals := 103 } : Room) #[(.ref pa0)] [pa0] h0 (fun v h S' => (∃ r0 : Nat, ∃ r1 : Nat, ∃ r2 : Nat, v = some (.ref r0) ∧ Keep h0 h [] ∧ h0.size ≤ r0 ∧ h0.size ≤ r1 ∧ h0.size ≤ r2 ∧ r1 ≠ r0 ∧ r2 ≠ r0 ∧ r2 ≠ r1 ∧ Exa Z h r0 "java/util/Optional" ∧ Fld Z h r0 "java/util/Optional" "value" "Ljava/lang/Object;" (.ref r1) ∧ Exa Z h r1 "com/example/ply3/ply3/Target" ∧ Fld Z h r1 "com/example/ply3/ply3/Target" "name" "Ljava/lang/String;" (.ref pa0) ∧ Fld Z h r1 "com/example/ply3/ply3/Target" "segments" "Ljava/util/List;" (.ref r2) ∧ Exa Z h r2 "java/util/ImmutableCollections$List12" ∧ Fld Z h r2 "java/util/ImmutableCollections$List12" "e0" "Ljava/lang/Object;" (.ref pa0) ∧ Fld Z h r2 "java/util/ImmutableCollections$List12" "e1" "Ljava/lang/Object;" (.ref u2) ∧ S' = [])) := by
 refine Ow.Con.enter (Ls := #[.val (.ref pa0), .unset, .unset]) (plainFor_of_name pn4) O0 (hEW hw) (hSA hw) ?_
 intro p e s m below meth c B
 have z0 := Ow.old_le O0
 have lu0 : (u0 : Nat) < n0 := O0.1 ▸ GS.2.1.lt
 have lu1 : (u1 : Nat) < n0 := O0.1 ▸ GS.2.2.2.2.1.lt
 have lu2 : (u2 : Nat) < n0 := O0.1 ▸ GS.2.2.2.2.2.2.lt
 have lpa0 : (pa0 : Nat) < h0.size := hf0.lt
 have lpa1 : (pa1 : Nat) < h0.size := hf3.lt
 refine Ow.aloadN (pc' := 1) B e10_0 ?_
 refine Ow.ldcText (pc' := 3) (k' := 2) (n' := 8) (nn := 4) (vs := [(.int 47)]) (z := 1) B e10_1 (w78 hw) (by decide) ⟨by decide, by decide⟩ (by decide) (by decide) ?_
 intro h2 a1 t3 kt3 Kh2 Ea1 Ca1 Va1 At3 Na1
 have zh2 := Kh2.1
 have la1 : (a1 : Nat) < h2.size := Ea1.lt
 have lt3 : (t3 : Nat) < h2.size := At3.lt
 have n4 : (pa0 : Nat) ≠ a1 ∧ (pa0 : Nat) ≠ t3 := Na1 pa0 (by simp)
 refine Ow.Go.old (fun o5 => ?_)
 have f6 := hf1.keep Kh2 Ow.nin0
 have f7 := hf2.keep Kh2 Ow.nin0
 have f8 := hf3.keep Kh2 Ow.nin0
 have f9 := hf0.keep Kh2
 refine Ow.callVirtual (pc' := 6) (W := 0) (k' := 2) (n' := 8) (argsL := [(.ref a1)]) (rest := []) (K := "java/lang/String") B e10_3 (w81 hw) (w82 hw) (w84 hw) (w84 hw) (w83 hw) (w6 hw) (w85 hw) f9 (con_equals_2 hw G GS (pa0 := pa0) (pa1 := a1) (pa2 := pa1) (pa3 := t3) (px0 := px0) (pk0 := pk0) (pk1 := kt3) o5 f6 f7 Ea1 Ca1 Va1 f8 At3 (by omega) (hk2)) pd7 ?_
 intro vq10 h11 S12 q10 zh11
 obtain ⟨rfl, rfl, rfl⟩ := q10
 refine Ow.Go.nr (S' := [pa0]) (st' := [(.int 0)]) ?_
 refine Ow.ifT (pc' := 27) B e10_6 (by decide) ?_
 refine Ow.aloadN (pc' := 28) B e10_27 ?_
 refine Ow.Go.old (fun o13 => ?_)
 refine Ow.callStatic (pc' := 31) (W := 0) (k' := 6) (n' := 24) (argsL := [(.ref pa0)]) (rest := []) B e10_28 (w91 hw) (w92 hw) (w76 hw) (w93 hw) (con_name_14 hw G GS (pa0 := pa0) (pa1 := pa1) (px0 := px0) (pk0 := pk0) o13 f9 f6 f7 f8 (hk2)) pd16 ?_
 intro vq14 h15 S16 q14 zh15
 obtain ⟨rfl, Kh15, rfl⟩ := q14
 refine Ow.Go.nr (S' := [pa0]) (st' := [(.ref pa0)]) ?_
 refine Ow.astoreN (pc' := 32) (Ls' := #[.val (.ref pa0), .val (.ref pa0), .unset]) B e10_31 ?_
 refine Ow.aloadN (pc' := 33) B e10_32 ?_
 refine Ow.ldcText (pc' := 35) (k' := 8) (n' := 32) (nn := 4) (vs := [(.int 47)]) (z := 1) B e10_33 (w78 hw) (by decide) ⟨by decide, by decide⟩ (by decide) (by decide) ?_
 intro h18 a17 t19 kt19 Kh18 Ea17 Ca17 Va17 At19 Na17
 have zh18 := Kh18.1
 have la17 : (a17 : Nat) < h18.size := Ea17.lt
 have lt19 : (t19 : Nat) < h18.size := At19.lt
 have n20 : (pa0 : Nat) ≠ a17 ∧ (pa0 : Nat) ≠ t19 := Na17 pa0 (by simp)
 refine Ow.iconst (pc' := 36) (x := (-1 : Int32)) B e10_35 ?_
 refine Ow.Go.old (fun o21 => ?_)
 have f22 := f9.keep Kh15
 have f23 := f22.keep Kh18
 have f24 := f6.keep Kh15 Ow.nin0
 have f25 := f24.keep Kh18 Ow.nin0
 have f26 := f7.keep Kh15 Ow.nin0
 have f27 := f26.keep Kh18 Ow.nin0
 have f28 := f8.keep Kh15 Ow.nin0
 have f29 := f28.keep Kh18 Ow.nin0
 refine Ow.callVirtual (pc' := 39) (W := 0) (k' := 12) (n' := 88) (argsL := [(.ref a17), (.int (-1))]) (rest := []) (K := "java/lang/String") B e10_36 (w137 hw) (w138 hw) (w140 hw) (w140 hw) (w139 hw) (w6 hw) (w141 hw) f23 (con_split_38 hw G GS (pa0 := pa0) (pa1 := a17) (pa2 := pa1) (pa3 := t19) (px0 := px0) (pk0 := pk0) (pk1 := kt19) o21 f23 f25 f27 Ea17 Ca17 Va17 f29 At19 (hk2)) pd28 ?_
 intro vq30 h31 S32 q30 zh31
 obtain ⟨r33, k34, rfl, Kh31, br33, f35, rfl⟩ := q30
 have lr33 : (r33 : Nat) < h31.size := f35.lt
 refine Ow.Go.nr (S' := [pa0]) (st' := [(.ref r33)]) ?_
 refine Ow.astoreN (pc' := 40) (Ls' := #[.val (.ref pa0), .val (.ref pa0), .val (.ref r33)]) B e10_39 ?_
 refine Ow.aloadN (pc' := 41) B e10_40 ?_
 refine Ow.Go.old (fun o36 => ?_)
 have f37 := f23.keep Kh31
 have f38 := f25.keep Kh31 Ow.nin0
 have f39 := f27.keep Kh31 Ow.nin0
 have f40 := f29.keep Kh31 Ow.nin0
 refine Ow.callStatic (pc' := 44) (W := 0) (k' := 12) (n' := 88) (argsL := [(.ref r33)]) (rest := []) B e10_41 (w225 hw) (w226 hw) (w76 hw) (w227 hw) (con_firstInvalid_44 hw G GS (pa0 := r33) (pa1 := pa0) (pa2 := pa1) (px0 := px0) (pk0 := k34) (pk1 := pk0) o36 f35 f37 f38 f39 f40 (by omega) (hk0) (hk1) (hk2)) pd30 ?_
 intro vq41 h42 S43 q41 zh42
 obtain ⟨rfl, rfl, rfl⟩ := q41
 refine Ow.Go.nr (S' := [pa0]) (st' := [(.int (-1))]) ?_
 refine Ow.ifT (pc' := 51) B e10_44 (by decide) ?_
 refine Ow.newObj (pc' := 54) (k' := 13) (n' := 90) B e10_51 (w240 hw) (w241 hw) (w76 hw) ?_
 intro h45 a44 ga44 ba44 Kh45 Aa44 Da44
 have zh45 := Kh45.1
 have la44 : (a44 : Nat) < h45.size := Aa44.lt
 have f46 : Fld Z h45 a44 "com/example/ply3/ply3/Target" "name" "Ljava/lang/String;" .null := Da44 (Or.inr (w282 hw)) (ty := (.object "java/lang/String")) (by decide)
 have f47 : Fld Z h45 a44 "com/example/ply3/ply3/Target" "segments" "Ljava/util/List;" .null := Da44 (Or.inr (w284 hw)) (ty := (.object "java/util/List")) (by decide)
 refine Ow.dup (pc' := 55) B e10_54 ?_
 refine Ow.aloadN (pc' := 56) B e10_55 ?_
 refine Ow.aloadN (pc' := 57) B e10_56 ?_
 refine Ow.Go.old (fun o48 => ?_)
 have f49 := f35.keep Kh45 Ow.nin0
 refine Ow.callStatic (pc' := 60) (W := 3) (k' := 14) (n' := 92) (argsL := [(.ref r33)]) (rest := [(.ref pa0), (.ref a44), (.ref a44)]) B e10_57 (w242 hw) (w243 hw) (w244 hw) (w245 hw) (con_of_49 hw G GS (pa0 := r33) (pa1 := pa0) (pk0 := k34) o48 f49 (by omega)) pd33 ?_
 intro vq50 h51 S52 q50 zh51
 obtain ⟨r53, rfl, Kh51, br53, f54, f55, f56, rfl⟩ := q50
 have lr53 : (r53 : Nat) < h51.size := f54.lt
 refine Ow.Go.nr (S' := [a44, pa0]) (st' := [(.ref r53), (.ref pa0), (.ref a44), (.ref a44)]) ?_
 refine Ow.Go.old (fun o57 => ?_)
 have f58 := Aa44.keep Kh51
 have f59 := f46.keep Kh51 Ow.nin0
 have f60 := f47.keep Kh51 Ow.nin0
 refine Ow.callInit (pc' := 63) (W := 1) (k' := 14) (n' := 92) (argsL := [(.ref pa0), (.ref r53)]) (rest := [(.ref a44)]) B e10_60 (w277 hw) (w278 hw) (w76 hw) (w279 hw) (con_init_50 hw G GS (pa0 := a44) (pa1 := pa0) (pa2 := r53) o57 f58 f59 f60 (by omega)) pd34 ?_
 intro vq61 h62 S63 q61 zh62
 obtain ⟨rfl, Kh62, f64, f65, f66, rfl⟩ := q61
 refine Ow.Go.nr (S' := [a44, pa0]) (st' := [(.ref a44)]) ?_
 refine Ow.Go.old (fun o67 => ?_)
 refine Ow.callStatic (pc' := 66) (W := 0) (k' := 15) (n' := 93) (argsL := [(.ref a44)]) (rest := []) B e10_63 (w285 hw) (w286 hw) (w53 hw) (w287 hw) (con_of_52 hw G GS (pa0 := a44) o67) pd35 ?_
 intro vq68 h69 S70 q68 zh69
 obtain ⟨r71, rfl, Kh69, br71, f72, f73, rfl⟩ := q68
 have lr71 : (r71 : Nat) < h69.size := f72.lt
 refine Ow.Go.nr (S' := [a44, pa0]) (st' := [(.ref r71)]) ?_
 have f74 := f64.keep Kh69
 have f75 := f65.keep Kh69 Ow.nin0
 have f76 := f66.keep Kh69 Ow.nin0
 have f77 := f54.keep Kh62
 have f78 := f77.keep Kh69
 have f79 := f55.keep Kh62 (Ow.ninS (by omega) Ow.nin0)
 have f80 := f79.keep Kh69 Ow.nin0
 have f81 := f56.keep Kh62 (Ow.ninS (by omega) Ow.nin0)
 have f82 := f81.keep Kh69 Ow.nin0
 exact Ow.retA (S' := []) (t := (.object "java/util/Optional")) B e10_66 (⟨r71, a44, r53, rfl, (((((((((Keep.refl _ []).trans Kh2 (fun _ q => nomatch q)).trans Kh15 (fun _ q => nomatch q)).trans Kh18 (fun _ q => nomatch q)).trans Kh31 (fun _ q => nomatch q)).trans Kh45 (fun _ q => nomatch q)).trans Kh51 (fun _ q => nomatch q)).trans Kh62 (allS (Or.inr (by omega)) all0)).trans Kh69 (fun _ q => nomatch q)), (by omega), (by omega), (by omega), (by omega), (by omega), (by omega), f72, f73, f74, f75, f76, f78, f80, f82, rfl⟩)
set_option maxRecDepth 65536 in
set_option maxHeartbeats 40000000 in
theorem con_orElseThrow_54 (hw : Hw a0 Z) (G : Ow.Glo Z cz sf) {u0 u1 u2 : Nat} (GS : GlS Z u0 u1 u2) {pa0 : Nat} {pa1 : Nat} {pa2 : Nat} {h0 : Heap} (O0 : Old Z n0 h0) (hf0 : Fld Z h0 pa0 "java/util/Optional" "value" "Ljava/lang/Object;" (.ref pa2)) (hn0 : n0 ≤ pa0) :
    Ow.Con l Z EL1 n0 my50 jdk_32_method_18_code 2 (Option.some (Jvm.ClassFile.FieldType.object "java/lang/Object")) [] ({ frames := 0, cells := 0, slots := 0, locals := 0 } : Room) #[(.ref pa0), (.ref pa1)] [] h0 (fun v h S' => (v = some (.ref pa2) ∧ h = h0 ∧ S' = [])) := by
 refine Ow.Con.enter (Ls := #[.val (.ref pa0), .val (.ref pa1)]) (plainFor_of_name pn16) O0 (hEW hw) (hSA hw) ?_
 intro p e s m below meth c B
 have z0 := Ow.old_le O0
 have lu0 : (u0 : Nat) < n0 := O0.1 ▸ GS.2.1.lt
 have lu1 : (u1 : Nat) < n0 := O0.1 ▸ GS.2.2.2.2.1.lt
 have lu2 : (u2 : Nat) < n0 := O0.1 ▸ GS.2.2.2.2.2.2.lt
 have lpa0 : (pa0 : Nat) < h0.size := hf0.lt
 refine Ow.aloadN (pc' := 1) B e53_0 ?_
 refine Ow.getfield (pc' := 4) B e53_1 (w61 hw) Via.refl hf0 ?_
 refine Ow.ifnullF (pc' := 7) B e53_4 ?_
 refine Ow.aloadN (pc' := 8) B e53_7 ?_
 refine Ow.getfield (pc' := 11) B e53_8 (w61 hw) Via.refl hf0 ?_
 exact Ow.retA (S' := []) (t := (.object "java/lang/Object")) B e53_11 (⟨rfl, rfl, rfl⟩)
set_option maxRecDepth 65536 in
set_option maxHeartbeats 40000000 in
theorem con_parse_55 (hw : Hw a0 Z) (G : Ow.Glo Z cz sf) {u0 u1 u2 : Nat} (GS : GlS Z u0 u1 u2) {pa0 : Nat} {pa1 : Nat} {px0 : Int32} {pk0 : ClassId} {h0 : Heap} (O0 : Old Z n0 h0) (hf0 : Exa Z h0 pa0 "java/lang/String") (hf1 : Fld Z h0 pa0 "java/lang/String" "coder" "B" (.int 0)) (hf2 : Fld Z h0 pa0 "java/lang/String" "value" "[B" (.ref pa1)) (hf3 : Arv Z h0 pa1 pk0 .byte (1 : Int32) [(.int px0.toInt8.toInt32)] (.int 0)) (hk0 : ¬ (px0 < (0 : Int32))) (hk1 : ¬ ((255 : Int32) < px0)) (hk2 : alP px0) :
    Ow.Con l Z EL1 n0 my51 prog_14_method_4_code 1 (Option.some (Jvm.ClassFile.FieldType.object "com/example/ply3/ply3/Target")) [] ({ frames := 8, cells := 16, slots := 94, locals := 3074 } : Room) #[(.ref pa0)] [pa0] h0 (fun v h S' => (∃ r0 : Nat, ∃ r1 : Nat, v = some (.ref r0) ∧ Keep h0 h [] ∧ h0.size ≤ r0 ∧ h0.size ≤ r1 ∧ r1 ≠ r0 ∧ Exa Z h r0 "com/example/ply3/ply3/Target" ∧ Fld Z h r0 "com/example/ply3/ply3/Target" "name" "Ljava/lang/String;" (.ref pa0) ∧ Fld Z h r0 "com/example/ply3/ply3/Target" "segments" "Ljava/util/List;" (.ref r1) ∧ Exa Z h r1 "java/util/ImmutableCollections$List12" ∧ Fld Z h r1 "java/util/ImmutableCollections$List12" "e0" "Ljava/lang/Object;" (.ref pa0) ∧ Fld Z h r1 "java/util/ImmutableCollections$List12" "e1" "Ljava/lang/Object;" (.ref u2) ∧ S' = [])) := by
 refine Ow.Con.enterM (Ls := #[.val (.ref pa0)]) (plainFor_of_name pn3) O0 (hEW hw) (hSA hw) ?_
 intro p e s m below meth c B hmn hpw
 have z0 := Ow.old_le O0
 have lu0 : (u0 : Nat) < n0 := O0.1 ▸ GS.2.1.lt
 have lu1 : (u1 : Nat) < n0 := O0.1 ▸ GS.2.2.2.2.1.lt
 have lu2 : (u2 : Nat) < n0 := O0.1 ▸ GS.2.2.2.2.2.2.lt
 have lpa0 : (pa0 : Nat) < h0.size := hf0.lt
 have lpa1 : (pa1 : Nat) < h0.size := hf3.lt
 refine Ow.aloadN (pc' := 1) B e9_0 ?_
 refine Ow.Go.old (fun o1 => ?_)
 refine Ow.callStatic (pc' := 4) (W := 0) (k' := 15) (n' := 93) (argsL := [(.ref pa0)]) (rest := []) B e9_1 (w74 hw) (w75 hw) (w76 hw) (w77 hw) (con_parse_53 hw G GS (pa0 := pa0) (pa1 := pa1) (px0 := px0) (pk0 := pk0) o1 hf0 hf1 hf2 hf3 (hk0) (hk1) (hk2)) pd36 ?_
 intro vq2 h3 S4 q2 zh3
 obtain ⟨r5, r6, r7, rfl, Kh3, br5, br6, br7, n8, n9, n10, f11, f12, f13, f14, f15, f16, f17, f18, rfl⟩ := q2
 have lr5 : (r5 : Nat) < h3.size := f11.lt
 have lr6 : (r6 : Nat) < h3.size := f13.lt
 have lr7 : (r7 : Nat) < h3.size := f16.lt
 refine Ow.Go.nr (S' := [pa0]) (st' := [(.ref r5)]) ?_
 refine Ow.aloadN (pc' := 5) B e9_4 ?_
 refine Ow.indy (pc' := 10) (k' := 16) (n' := 94) (W := 1) (T0 := "java/lang/String") B e9_5 hmn hpw (w296 hw) (w299 hw) (by decide +kernel) ?_
 intro h20 a19 ga19 ba19 Kh20 la19
 have zh20 := Kh20.1
 refine Ow.Go.old (fun o21 => ?_)
 have f22 := f12.keep Kh20 Ow.nin0
 have f23 := f11.keep Kh20
 refine Ow.callVirtual (pc' := 13) (W := 0) (k' := 16) (n' := 94) (argsL := [(.ref a19)]) (rest := []) (K := "java/util/Optional") B e9_10 (w300 hw) (w301 hw) (w303 hw) (w303 hw) (w302 hw) (w53 hw) (w304 hw) f23 (con_orElseThrow_54 hw G GS (pa0 := r5) (pa1 := a19) (pa2 := r6) o21 f22 (by omega)) pd37 ?_
 intro vq24 h25 S26 q24 zh25
 obtain ⟨rfl, rfl, rfl⟩ := q24
 refine Ow.Go.nr (S' := [a19, pa0]) (st' := [(.ref r6)]) ?_
 have f27 := f13.keep Kh20
 refine Ow.checkcast (pc' := 16) B e9_13 (w305 hw) (Ins.self f27) ?_
 have f28 := f14.keep Kh20 Ow.nin0
 have f29 := f15.keep Kh20 Ow.nin0
 have f30 := f16.keep Kh20
 have f31 := f17.keep Kh20 Ow.nin0
 have f32 := f18.keep Kh20 Ow.nin0
 exact Ow.retA (S' := []) (t := (.object "com/example/ply3/ply3/Target")) B e9_16 (⟨r6, r7, rfl, (((Keep.refl _ []).trans Kh3 (fun _ q => nomatch q)).trans Kh20 (fun _ q => nomatch q)), (by omega), (by omega), (by omega), f27, f28, f29, f30, f31, f32, rfl⟩)
set_option maxRecDepth 65536 in
set_option maxHeartbeats 40000000 in
theorem con_redirectTo_56 (hw : Hw a0 Z) (G : Ow.Glo Z cz sf) {u0 u1 u2 : Nat} (GS : GlS Z u0 u1 u2) {pa0 : Nat} {pa1 : Nat} {pa2 : Nat} {px0 : Int32} {px1 : Int32} {pk0 : ClassId} {h0 : Heap} (O0 : Old Z n0 h0) (hf0 : Exa Z h0 pa0 "com/example/ply3/ply3/Navigator") (hf1 : Fld Z h0 pa0 "com/example/ply3/ply3/Navigator" "internal" "Z" (.int px0)) (hf2 : Fld Z h0 pa0 "com/example/ply3/ply3/Navigator" "redirect" "Lcom/example/ply3/ply3/Target;" vr) (hf3 : Exa Z h0 pa1 "java/lang/String") (hf4 : Fld Z h0 pa1 "java/lang/String" "coder" "B" (.int 0)) (hf5 : Fld Z h0 pa1 "java/lang/String" "value" "[B" (.ref pa2)) (hf6 : Arv Z h0 pa2 pk0 .byte (1 : Int32) [(.int px1.toInt8.toInt32)] (.int 0)) (hn0 : n0 ≤ pa0) (hk0 : ¬ (px1 < (0 : Int32))) (hk1 : ¬ ((255 : Int32) < px1)) (hk2 : alP px1) :
    Ow.Con l Z EL1 n0 my52 prog_14_method_2_code 2 (Option.none : Option Jvm.ClassFile.FieldType) [] ({ frames := 9, cells := 16, slots := 94, locals := 3087 } : Room) #[(.ref pa0), (.ref pa1)] [pa1] h0 (fun v h S' => (∃ r0 : Nat, ∃ r1 : Nat, v = none ∧ Keep h0 h [pa0] ∧ h0.size ≤ r0 ∧ h0.size ≤ r1 ∧ r1 ≠ r0 ∧ Exa Z h pa0 "com/example/ply3/ply3/Navigator" ∧ Fld Z h pa0 "com/example/ply3/ply3/Navigator" "internal" "Z" (.int 0) ∧ Fld Z h pa0 "com/example/ply3/ply3/Navigator" "redirect" "Lcom/example/ply3/ply3/Target;" (.ref r0) ∧ Exa Z h r0 "com/example/ply3/ply3/Target" ∧ Fld Z h r0 "com/example/ply3/ply3/Target" "name" "Ljava/lang/String;" (.ref pa1) ∧ Fld Z h r0 "com/example/ply3/ply3/Target" "segments" "Ljava/util/List;" (.ref r1) ∧ Exa Z h r1 "java/util/ImmutableCollections$List12" ∧ Fld Z h r1 "java/util/ImmutableCollections$List12" "e0" "Ljava/lang/Object;" (.ref pa1) ∧ Fld Z h r1 "java/util/ImmutableCollections$List12" "e1" "Ljava/lang/Object;" (.ref u2) ∧ S' = [])) := by
 refine Ow.Con.enter (Ls := #[.val (.ref pa0), .val (.ref pa1)]) (plainFor_of_name pn3) O0 (hEW hw) (hSA hw) ?_
 intro p e s m below meth c B
 have z0 := Ow.old_le O0
 have lu0 : (u0 : Nat) < n0 := O0.1 ▸ GS.2.1.lt
 have lu1 : (u1 : Nat) < n0 := O0.1 ▸ GS.2.2.2.2.1.lt
 have lu2 : (u2 : Nat) < n0 := O0.1 ▸ GS.2.2.2.2.2.2.lt
 have lpa0 : (pa0 : Nat) < h0.size := hf0.lt
 have lpa1 : (pa1 : Nat) < h0.size := hf3.lt
 have lpa2 : (pa2 : Nat) < h0.size := hf6.lt
 refine Ow.aloadN (pc' := 1) B e8_0 ?_
 refine Ow.aloadN (pc' := 2) B e8_1 ?_
 refine Ow.Go.old (fun o1 => ?_)
 refine Ow.callStatic (pc' := 5) (W := 1) (k' := 16) (n' := 94) (argsL := [(.ref pa1)]) (rest := [(.ref pa0)]) B e8_2 (w71 hw) (w72 hw) (w39 hw) (w73 hw) (con_parse_55 hw G GS (pa0 := pa1) (pa1 := pa2) (px0 := px1) (pk0 := pk0) o1 hf3 hf4 hf5 hf6 (hk0) (hk1) (hk2)) pd38 ?_
 intro vq2 h3 S4 q2 zh3
 obtain ⟨r5, r6, rfl, Kh3, br5, br6, n7, f8, f9, f10, f11, f12, f13, rfl⟩ := q2
 have lr5 : (r5 : Nat) < h3.size := f8.lt
 have lr6 : (r6 : Nat) < h3.size := f11.lt
 refine Ow.Go.nr (S' := [pa1]) (st' := [(.ref r5), (.ref pa0)]) ?_
 have f14 := hf2.keep Kh3 Ow.nin0
 have f15 := hf0.keep Kh3
 refine Ow.putfield (pc' := 8) (ty := (.object "com/example/ply3/ply3/Target")) B e8_5 (w307 hw) Via.refl f14 f15 (Or.inl (w308 hw)) (w38 hw) (Or.inr ⟨by decide, by decide⟩) ?_
 intro h16 Wh16
 have f17 := hf1.keep Kh3 Ow.nin0
 have Kh16 := Keep.of_wr Wh16
 have zh16 := Kh16.1
 have f18 : Fld Z h16 pa0 "com/example/ply3/ply3/Navigator" "redirect" "Lcom/example/ply3/ply3/Target;" (.ref r5) := f14.same Wh16
 have f19 : Fld Z h16 pa0 "com/example/ply3/ply3/Navigator" "internal" "Z" (.int px0) := f17.other Wh16 (Or.inr (slot_ne (a0 := a0) (C := "com/example/ply3/ply3/Navigator") (t := .boolean) (t' := (.object "com/example/ply3/ply3/Target")) (Or.inl (w50 hw)) (Or.inl (w308 hw)) (by decide) (by decide) (by decide)))
 refine Ow.aloadN (pc' := 9) B e8_8 ?_
 refine Ow.iconst (pc' := 10) (x := 0) B e8_9 ?_
 have f20 := f15.keep Kh16
 refine Ow.putfield (pc' := 13) (ty := .boolean) B e8_10 (w49 hw) Via.refl f19 f20 (Or.inl (w50 hw)) (w38 hw) (Or.inr ⟨by decide, by decide⟩) ?_
 intro h21 Wh21
 have Kh21 := Keep.of_wr Wh21
 have zh21 := Kh21.1
 have f22 : Fld Z h21 pa0 "com/example/ply3/ply3/Navigator" "internal" "Z" (.int 0) := f19.same Wh21
 have f23 : Fld Z h21 pa0 "com/example/ply3/ply3/Navigator" "redirect" "Lcom/example/ply3/ply3/Target;" (.ref r5) := f18.other Wh21 (Or.inr (slot_ne (a0 := a0) (C := "com/example/ply3/ply3/Navigator") (t := (.object "com/example/ply3/ply3/Target")) (t' := .boolean) (Or.inl (w308 hw)) (Or.inl (w50 hw)) (by decide) (by decide) (by decide)))
 have f24 := f20.keep Kh21
 have f25 := f8.keep Kh16
 have f26 := f25.keep Kh21
 have f27 := f9.keep Kh16 (Ow.ninS (by omega) Ow.nin0)
 have f28 := f27.keep Kh21 (Ow.ninS (by omega) Ow.nin0)
 have f29 := f10.keep Kh16 (Ow.ninS (by omega) Ow.nin0)
 have f30 := f29.keep Kh21 (Ow.ninS (by omega) Ow.nin0)
 have f31 := f11.keep Kh16
 have f32 := f31.keep Kh21
 have f33 := f12.keep Kh16 (Ow.ninS (by omega) Ow.nin0)
 have f34 := f33.keep Kh21 (Ow.ninS (by omega) Ow.nin0)
 have f35 := f13.keep Kh16 (Ow.ninS (by omega) Ow.nin0)
 have f36 := f35.keep Kh21 (Ow.ninS (by omega) Ow.nin0)
 exact Ow.retV (S' := []) B e8_13 (⟨r5, r6, rfl, ((((Keep.refl _ [pa0]).trans Kh3 (fun _ q => nomatch q)).trans Kh16 (allS (Or.inl (by simp)) all0)).trans Kh21 (allS (Or.inl (by simp)) all0)), (by omega), (by omega), (by omega), f24, f22, f23, f26, f28, f30, f32, f34, f36, rfl⟩)
set_option maxRecDepth 65536 in
set_option maxHeartbeats 40000000 in
theorem con_equals_57 (hw : Hw a0 Z) (G : Ow.Glo Z cz sf) {u0 u1 u2 : Nat} (GS : GlS Z u0 u1 u2) {pa0 : Nat} {pa1 : Nat} {px0 : Int32} {px1 : Int32} {pk0 : ClassId} {pk1 : ClassId} {h0 : Heap} (O0 : Old Z n0 h0) (hf0 : Arv Z h0 pa0 pk0 .byte (2 : Int32) [(.int px0.toInt8.toInt32), (.int px1.toInt8.toInt32)] (.int 0)) (hf1 : Arv Z h0 pa1 pk1 .byte (1 : Int32) [(.int 47)] (.int 0)) (hk0 : alP px0) (hk1 : alP px1) :
    Ow.Con l Z EL1 n0 my7 jdk_43_method_13_code 3 (Option.some Jvm.ClassFile.FieldType.boolean) [] ({ frames := 0, cells := 0, slots := 0, locals := 0 } : Room) #[(.ref pa0), (.ref pa1)] [] h0 (fun v h S' => (v = some (.int 0) ∧ h = h0 ∧ S' = [])) := by
 refine Ow.Con.enter (Ls := #[.val (.ref pa0), .val (.ref pa1), .unset]) (plainFor_of_name pn5) O0 (hEW hw) (hSA hw) ?_
 intro p e s m below meth c B
 have z0 := Ow.old_le O0
 have lu0 : (u0 : Nat) < n0 := O0.1 ▸ GS.2.1.lt
 have lu1 : (u1 : Nat) < n0 := O0.1 ▸ GS.2.2.2.2.1.lt
 have lu2 : (u2 : Nat) < n0 := O0.1 ▸ GS.2.2.2.2.2.2.lt
 have lpa0 : (pa0 : Nat) < h0.size := hf0.lt
 have lpa1 : (pa1 : Nat) < h0.size := hf1.lt
 have i0 := hk0
 have e0 := own_al8 i0
 unfold alP at i0
 have i1 := hk1
 have e1 := own_al8 i1
 unfold alP at i1
 refine Ow.aloadN (pc' := 1) B e12_0 ?_
 refine Ow.arrlen (pc' := 2) B e12_1 hf0 ?_
 refine Ow.aloadN (pc' := 3) B e12_2 ?_
 refine Ow.arrlen (pc' := 4) B e12_3 hf1 ?_
 refine Ow.icmpT (pc' := 34) B e12_4 (by decide) ?_
 refine Ow.iconst (pc' := 35) (x := 0) B e12_34 ?_
 exact Ow.retI (S' := []) (t := .boolean) B e12_35 (⟨rfl, rfl, rfl⟩)
set_option maxRecDepth 65536 in
set_option maxHeartbeats 40000000 in
theorem con_equals_58 (hw : Hw a0 Z) (G : Ow.Glo Z cz sf) {u0 u1 u2 : Nat} (GS : GlS Z u0 u1 u2) {pa0 : Nat} {pa1 : Nat} {pa2 : Nat} {pa3 : Nat} {px0 : Int32} {px1 : Int32} {pk0 : ClassId} {pk1 : ClassId} {h0 : Heap} (O0 : Old Z n0 h0) (hf0 : Fld Z h0 pa0 "java/lang/String" "coder" "B" (.int 0)) (hf1 : Fld Z h0 pa0 "java/lang/String" "value" "[B" (.ref pa2)) (hf2 : Exa Z h0 pa1 "java/lang/String") (hf3 : Fld Z h0 pa1 "java/lang/String" "coder" "B" (.int 0)) (hf4 : Fld Z h0 pa1 "java/lang/String" "value" "[B" (.ref pa3)) (hf5 : Arv Z h0 pa2 pk0 .byte (2 : Int32) [(.int px0.toInt8.toInt32), (.int px1.toInt8.toInt32)] (.int 0)) (hf6 : Arv Z h0 pa3 pk1 .byte (1 : Int32) [(.int 47)] (.int 0)) (hd0 : pa0 ≠ pa1) (hk0 : alP px0) (hk1 : alP px1) :
    Ow.Con l Z EL1 n0 my8 jdk_42_method_66_code 3 (Option.some Jvm.ClassFile.FieldType.boolean) [] ({ frames := 1, cells := 0, slots := 0, locals := 14 } : Room) #[(.ref pa0), (.ref pa1)] [pa0] h0 (fun v h S' => (v = some (.int 0) ∧ h = h0 ∧ S' = [])) := by
 refine Ow.Con.enter (Ls := #[.val (.ref pa0), .val (.ref pa1), .unset]) (plainFor_of_name pn1) O0 (hEW hw) (hSA hw) ?_
 intro p e s m below meth c B
 have z0 := Ow.old_le O0
 have lu0 : (u0 : Nat) < n0 := O0.1 ▸ GS.2.1.lt
 have lu1 : (u1 : Nat) < n0 := O0.1 ▸ GS.2.2.2.2.1.lt
 have lu2 : (u2 : Nat) < n0 := O0.1 ▸ GS.2.2.2.2.2.2.lt
 have lpa0 : (pa0 : Nat) < h0.size := hf0.lt
 have lpa1 : (pa1 : Nat) < h0.size := hf2.lt
 have lpa2 : (pa2 : Nat) < h0.size := hf5.lt
 have lpa3 : (pa3 : Nat) < h0.size := hf6.lt
 refine Ow.aloadN (pc' := 1) B e11_0 ?_
 refine Ow.aloadN (pc' := 2) B e11_1 ?_
 refine Ow.acmpR (pc' := 7) (same := false) B e11_2 (decide_eq_false (fun q => absurd (show (pa0 : Nat) = pa1 from Value.ref.inj q) (by omega))) ?_
 refine Ow.aloadN (pc' := 8) B e11_7 ?_
 refine Ow.instYes (pc' := 11) B e11_8 (w86 hw) (Ins.self hf2) ?_
 refine Ow.ifF (pc' := 14) B e11_11 (by decide) ?_
 refine Ow.aloadN (pc' := 15) B e11_14 ?_
 refine Ow.checkcast (pc' := 18) B e11_15 (w86 hw) (Ins.self hf2) ?_
 refine Ow.astoreN (pc' := 19) (Ls' := #[.val (.ref pa0), .val (.ref pa1), .val (.ref pa1)]) B e11_18 ?_
 refine Ow.getstatic (pc' := 22) B e11_19 (w21 hw) Via.refl G.1 ?_
 refine Ow.ifF (pc' := 25) B e11_22 (feq (G.2.1)).1 ?_
 refine Ow.aloadN (pc' := 26) B e11_25 ?_
 refine Ow.getfield (pc' := 29) B e11_26 (w33 hw) Via.refl hf0 ?_
 refine Ow.aloadN (pc' := 30) B e11_29 ?_
 refine Ow.getfield (pc' := 33) B e11_30 (w33 hw) Via.refl hf3 ?_
 refine Ow.icmpF (pc' := 36) B e11_33 (by decide) ?_
 refine Ow.aloadN (pc' := 37) B e11_36 ?_
 refine Ow.getfield (pc' := 40) B e11_37 (w35 hw) Via.refl hf1 ?_
 refine Ow.aloadN (pc' := 41) B e11_40 ?_
 refine Ow.getfield (pc' := 44) B e11_41 (w35 hw) Via.refl hf4 ?_
 refine Ow.Go.old (fun o1 => ?_)
 refine Ow.callStatic (pc' := 47) (W := 0) (k' := 0) (n' := 0) (argsL := [(.ref pa2), (.ref pa3)]) (rest := []) B e11_44 (w87 hw) (w88 hw) (w89 hw) (w90 hw) (con_equals_57 hw G GS (pa0 := pa2) (pa1 := pa3) (px0 := px0) (px1 := px1) (pk0 := pk0) (pk1 := pk1) o1 hf5 hf6 (hk0) (hk1)) pd6 ?_
 intro vq2 h3 S4 q2 zh3
 obtain ⟨rfl, rfl, rfl⟩ := q2
 refine Ow.Go.nr (S' := [pa0]) (st' := [(.int 0)]) ?_
 refine Ow.ifT (pc' := 54) B e11_47 (by decide) ?_
 refine Ow.iconst (pc' := 55) (x := 0) B e11_54 ?_
 exact Ow.retI (S' := []) (t := .boolean) B e11_55 (⟨rfl, rfl, rfl⟩)
set_option maxRecDepth 65536 in
set_option maxHeartbeats 40000000 in
theorem con_length_59 (hw : Hw a0 Z) (G : Ow.Glo Z cz sf) {u0 u1 u2 : Nat} (GS : GlS Z u0 u1 u2) {pa0 : Nat} {pa1 : Nat} {px0 : Int32} {px1 : Int32} {pk0 : ClassId} {h0 : Heap} (O0 : Old Z n0 h0) (hf0 : Exa Z h0 pa0 "java/lang/String") (hf1 : Fld Z h0 pa0 "java/lang/String" "coder" "B" (.int 0)) (hf2 : Fld Z h0 pa0 "java/lang/String" "value" "[B" (.ref pa1)) (hf3 : Arv Z h0 pa1 pk0 .byte (2 : Int32) [(.int px0.toInt8.toInt32), (.int px1.toInt8.toInt32)] (.int 0)) :
    Ow.Con l Z EL1 n0 my10 jdk_42_method_54_code 1 (Option.some Jvm.ClassFile.FieldType.int) [] ({ frames := 1, cells := 0, slots := 0, locals := 13 } : Room) #[(.ref pa0)] [pa0] h0 (fun v h S' => (v = some (.int 2) ∧ h = h0 ∧ S' = [])) := by
 refine Ow.Con.enter (Ls := #[.val (.ref pa0)]) (plainFor_of_name pn1) O0 (hEW hw) (hSA hw) ?_
 intro p e s m below meth c B
 have z0 := Ow.old_le O0
 have lu0 : (u0 : Nat) < n0 := O0.1 ▸ GS.2.1.lt
 have lu1 : (u1 : Nat) < n0 := O0.1 ▸ GS.2.2.2.2.1.lt
 have lu2 : (u2 : Nat) < n0 := O0.1 ▸ GS.2.2.2.2.2.2.lt
 have lpa0 : (pa0 : Nat) < h0.size := hf0.lt
 have lpa1 : (pa1 : Nat) < h0.size := hf3.lt
 refine Ow.aloadN (pc' := 1) B e16_0 ?_
 refine Ow.getfield (pc' := 4) B e16_1 (w35 hw) Via.refl hf2 ?_
 refine Ow.arrlen (pc' := 5) B e16_4 hf3 ?_
 refine Ow.aloadN (pc' := 6) B e16_5 ?_
 refine Ow.Go.old (fun o1 => ?_)
 refine Ow.callVirtual (pc' := 9) (W := 1) (k' := 0) (n' := 0) (argsL := []) (rest := [(.int 2)]) (K := "java/lang/String") B e16_6 (w109 hw) (w110 hw) (w112 hw) (w112 hw) (w111 hw) (w6 hw) (w113 hw) hf0 (con_coder_3 hw G GS (pa0 := pa0) o1 hf1) pd8 ?_
 intro vq2 h3 S4 q2 zh3
 obtain ⟨rfl, rfl, rfl⟩ := q2
 refine Ow.Go.nr (S' := [pa0]) (st' := [(.int 0), (.int 2)]) ?_
 refine Ow.ishr (pc' := 10) (z := 2) B e16_9 ?_
 exact Ow.retI (S' := []) (t := .int) B e16_10 (⟨rfl, rfl, rfl⟩)
set_option maxRecDepth 65536 in
set_option maxHeartbeats 40000000 in
theorem con_mismatch_60 (hw : Hw a0 Z) (G : Ow.Glo Z cz sf) {u0 u1 u2 : Nat} (GS : GlS Z u0 u1 u2) {pa0 : Nat} {pa1 : Nat} {px0 : Int32} {px1 : Int32} {pk0 : ClassId} {pk1 : ClassId} {h0 : Heap} (O0 : Old Z n0 h0) (hf0 : Arv Z h0 pa0 pk0 .byte (2 : Int32) [(.int px0.toInt8.toInt32), (.int px1.toInt8.toInt32)] (.int 0)) (hf1 : Arv Z h0 pa1 pk1 .byte (1 : Int32) [(.int 47)] (.int 0)) (hk0 : alP px0) (hk1 : alP px1) :
    Ow.Con l Z EL1 n0 my11 jdk_48_method_14_code 8 (Option.some Jvm.ClassFile.FieldType.int) [] ({ frames := 0, cells := 0, slots := 0, locals := 0 } : Room) #[(.ref pa0), (.int 0), (.ref pa1), (.int 0), (.int 1)] [] h0 (fun v h S' => (v = some (.int 0) ∧ h = h0 ∧ S' = [])) := by
 refine Ow.Con.enter (Ls := #[.val (.ref pa0), .val (.int 0), .val (.ref pa1), .val (.int 0), .val (.int 1), .unset, .unset, .unset]) (plainFor_of_name pn6) O0 (hEW hw) (hSA hw) ?_
 intro p e s m below meth c B
 have z0 := Ow.old_le O0
 have lu0 : (u0 : Nat) < n0 := O0.1 ▸ GS.2.1.lt
 have lu1 : (u1 : Nat) < n0 := O0.1 ▸ GS.2.2.2.2.1.lt
 have lu2 : (u2 : Nat) < n0 := O0.1 ▸ GS.2.2.2.2.2.2.lt
 have lpa0 : (pa0 : Nat) < h0.size := hf0.lt
 have lpa1 : (pa1 : Nat) < h0.size := hf1.lt
 have i0 := hk0
 have e0 := own_al8 i0
 unfold alP at i0
 have i1 := hk1
 have e1 := own_al8 i1
 unfold alP at i1
 refine Ow.iconst (pc' := 1) (x := 0) B e18_0 ?_
 refine Ow.istore (pc' := 3) (Ls' := #[.val (.ref pa0), .val (.int 0), .val (.ref pa1), .val (.int 0), .val (.int 1), .val (.int 0), .unset, .unset]) B e18_1 ?_
 refine Ow.iload (pc' := 5) B e18_3 ?_
 refine Ow.bipush (pc' := 7) (x := 7) B e18_5 ?_
 refine Ow.icmpT (pc' := 70) B e18_7 (by decide) ?_
 refine Ow.iload (pc' := 72) B e18_70 ?_
 refine Ow.iload (pc' := 74) B e18_72 ?_
 refine Ow.icmpF (pc' := 77) B e18_74 (by decide) ?_
 refine Ow.aloadN (pc' := 78) B e18_77 ?_
 refine Ow.iloadN (pc' := 79) B e18_78 ?_
 refine Ow.iload (pc' := 81) B e18_79 ?_
 refine Ow.iadd (pc' := 82) (z := 0) B e18_81 ?_
 refine Ow.baload (pc' := 83) B e18_82 hf0 ⟨by decide, by decide⟩ rfl ?_
 refine Ow.aloadN (pc' := 84) B e18_83 ?_
 refine Ow.iloadN (pc' := 85) B e18_84 ?_
 refine Ow.iload (pc' := 87) B e18_85 ?_
 refine Ow.iadd (pc' := 88) (z := 0) B e18_87 ?_
 refine Ow.baload (pc' := 89) B e18_88 hf1 ⟨by decide, by decide⟩ rfl ?_
 refine Ow.icmpF (pc' := 92) B e18_89 (feq ((by simp only [Int32.lt_iff_toInt_lt, ← Int32.toInt_inj, Int32.reduceToInt]; omega))).1 ?_
 refine Ow.iload (pc' := 94) B e18_92 ?_
 exact Ow.retI (S' := []) (t := .int) B e18_94 (⟨rfl, rfl, rfl⟩)
set_option maxRecDepth 65536 in
set_option maxHeartbeats 40000000 in
theorem con_startsWith_61 (hw : Hw a0 Z) (G : Ow.Glo Z cz sf) {u0 u1 u2 : Nat} (GS : GlS Z u0 u1 u2) {pa0 : Nat} {pa1 : Nat} {pa2 : Nat} {pa3 : Nat} {px0 : Int32} {px1 : Int32} {pk0 : ClassId} {pk1 : ClassId} {h0 : Heap} (O0 : Old Z n0 h0) (hf0 : Exa Z h0 pa0 "java/lang/String") (hf1 : Fld Z h0 pa0 "java/lang/String" "coder" "B" (.int 0)) (hf2 : Fld Z h0 pa0 "java/lang/String" "value" "[B" (.ref pa2)) (hf3 : Exa Z h0 pa1 "java/lang/String") (hf4 : Fld Z h0 pa1 "java/lang/String" "coder" "B" (.int 0)) (hf5 : Fld Z h0 pa1 "java/lang/String" "value" "[B" (.ref pa3)) (hf6 : Arv Z h0 pa2 pk0 .byte (2 : Int32) [(.int px0.toInt8.toInt32), (.int px1.toInt8.toInt32)] (.int 0)) (hf7 : Arv Z h0 pa3 pk1 .byte (1 : Int32) [(.int 47)] (.int 0)) (hk0 : alP px0) (hk1 : alP px1) :
    Ow.Con l Z EL1 n0 my12 jdk_42_method_75_code 8 (Option.some Jvm.ClassFile.FieldType.boolean) [] ({ frames := 2, cells := 0, slots := 0, locals := 27 } : Room) #[(.ref pa0), (.ref pa1), (.int 0)] [pa0] h0 (fun v h S' => (v = some (.int 0) ∧ h = h0 ∧ S' = [])) := by
 refine Ow.Con.enter (Ls := #[.val (.ref pa0), .val (.ref pa1), .val (.int 0), .unset, .unset, .unset, .unset, .unset]) (plainFor_of_name pn1) O0 (hEW hw) (hSA hw) ?_
 intro p e s m below meth c B
 have z0 := Ow.old_le O0
 have lu0 : (u0 : Nat) < n0 := O0.1 ▸ GS.2.1.lt
 have lu1 : (u1 : Nat) < n0 := O0.1 ▸ GS.2.2.2.2.1.lt
 have lu2 : (u2 : Nat) < n0 := O0.1 ▸ GS.2.2.2.2.2.2.lt
 have lpa0 : (pa0 : Nat) < h0.size := hf0.lt
 have lpa1 : (pa1 : Nat) < h0.size := hf3.lt
 have lpa2 : (pa2 : Nat) < h0.size := hf6.lt
 have lpa3 : (pa3 : Nat) < h0.size := hf7.lt
 refine Ow.iloadN (pc' := 1) B e15_0 ?_
 refine Ow.ifF (pc' := 4) B e15_1 (by decide) ?_
 refine Ow.iloadN (pc' := 5) B e15_4 ?_
 refine Ow.aloadN (pc' := 6) B e15_5 ?_
 refine Ow.Go.old (fun o1 => ?_)
 refine Ow.callVirtual (pc' := 9) (W := 1) (k' := 0) (n' := 0) (argsL := []) (rest := [(.int 0)]) (K := "java/lang/String") B e15_6 (w104 hw) (w105 hw) (w107 hw) (w107 hw) (w106 hw) (w6 hw) (w108 hw) hf0 (con_length_59 hw G GS (pa0 := pa0) (pa1 := pa2) (px0 := px0) (px1 := px1) (pk0 := pk0) o1 hf0 hf1 hf2 hf6) pd9 ?_
 intro vq2 h3 S4 q2 zh3
 obtain ⟨rfl, rfl, rfl⟩ := q2
 refine Ow.Go.nr (S' := [pa0]) (st' := [(.int 2), (.int 0)]) ?_
 refine Ow.aloadN (pc' := 10) B e15_9 ?_
 refine Ow.Go.old (fun o5 => ?_)
 refine Ow.callVirtual (pc' := 13) (W := 2) (k' := 0) (n' := 0) (argsL := []) (rest := [(.int 2), (.int 0)]) (K := "java/lang/String") B e15_10 (w104 hw) (w105 hw) (w107 hw) (w107 hw) (w106 hw) (w6 hw) (w108 hw) hf3 (con_length_6 hw G GS (pa0 := pa1) (pa1 := pa3) (pk0 := pk1) o5 hf3 hf4 hf5 hf7) pd9 ?_
 intro vq6 h7 S8 q6 zh7
 obtain ⟨rfl, rfl, rfl⟩ := q6
 refine Ow.Go.nr (S' := [pa0]) (st' := [(.int 1), (.int 2), (.int 0)]) ?_
 refine Ow.isub (pc' := 14) (z := 1) B e15_13 ?_
 refine Ow.icmpT (pc' := 19) B e15_14 (by decide) ?_
 refine Ow.aloadN (pc' := 20) B e15_19 ?_
 refine Ow.getfield (pc' := 23) B e15_20 (w35 hw) Via.refl hf2 ?_
 refine Ow.astoreN (pc' := 24) (Ls' := #[.val (.ref pa0), .val (.ref pa1), .val (.int 0), .val (.ref pa2), .unset, .unset, .unset, .unset]) B e15_23 ?_
 refine Ow.aloadN (pc' := 25) B e15_24 ?_
 refine Ow.getfield (pc' := 28) B e15_25 (w35 hw) Via.refl hf5 ?_
 refine Ow.astore (pc' := 30) (Ls' := #[.val (.ref pa0), .val (.ref pa1), .val (.int 0), .val (.ref pa2), .val (.ref pa3), .unset, .unset, .unset]) B e15_28 ?_
 refine Ow.iconst (pc' := 31) (x := 0) B e15_30 ?_
 refine Ow.istore (pc' := 33) (Ls' := #[.val (.ref pa0), .val (.ref pa1), .val (.int 0), .val (.ref pa2), .val (.ref pa3), .val (.int 0), .unset, .unset]) B e15_31 ?_
 refine Ow.aload (pc' := 35) B e15_33 ?_
 refine Ow.arrlen (pc' := 36) B e15_35 hf7 ?_
 refine Ow.istore (pc' := 38) (Ls' := #[.val (.ref pa0), .val (.ref pa1), .val (.int 0), .val (.ref pa2), .val (.ref pa3), .val (.int 0), .val (.int 1), .unset]) B e15_36 ?_
 refine Ow.aloadN (pc' := 39) B e15_38 ?_
 refine Ow.Go.old (fun o9 => ?_)
 refine Ow.callVirtual (pc' := 42) (W := 0) (k' := 0) (n' := 0) (argsL := []) (rest := []) (K := "java/lang/String") B e15_39 (w109 hw) (w110 hw) (w112 hw) (w112 hw) (w111 hw) (w6 hw) (w113 hw) hf0 (con_coder_3 hw G GS (pa0 := pa0) o9 hf1) pd8 ?_
 intro vq10 h11 S12 q10 zh11
 obtain ⟨rfl, rfl, rfl⟩ := q10
 refine Ow.Go.nr (S' := [pa0]) (st' := [(.int 0)]) ?_
 refine Ow.istore (pc' := 44) (Ls' := #[.val (.ref pa0), .val (.ref pa1), .val (.int 0), .val (.ref pa2), .val (.ref pa3), .val (.int 0), .val (.int 1), .val (.int 0)]) B e15_42 ?_
 refine Ow.iload (pc' := 46) B e15_44 ?_
 refine Ow.aloadN (pc' := 47) B e15_46 ?_
 refine Ow.Go.old (fun o13 => ?_)
 refine Ow.callVirtual (pc' := 50) (W := 1) (k' := 0) (n' := 0) (argsL := []) (rest := [(.int 0)]) (K := "java/lang/String") B e15_47 (w109 hw) (w110 hw) (w112 hw) (w112 hw) (w111 hw) (w6 hw) (w113 hw) hf3 (con_coder_5 hw G GS (pa0 := pa1) o13 hf4) pd8 ?_
 intro vq14 h15 S16 q14 zh15
 obtain ⟨rfl, rfl, rfl⟩ := q14
 refine Ow.Go.nr (S' := [pa0]) (st' := [(.int 0), (.int 0)]) ?_
 refine Ow.icmpF (pc' := 53) B e15_50 (by decide) ?_
 refine Ow.iload (pc' := 55) B e15_53 ?_
 refine Ow.iconst (pc' := 56) (x := 1) B e15_55 ?_
 refine Ow.icmpT (pc' := 63) B e15_56 (by decide) ?_
 refine Ow.aloadN (pc' := 64) B e15_63 ?_
 refine Ow.iloadN (pc' := 65) B e15_64 ?_
 refine Ow.aload (pc' := 67) B e15_65 ?_
 refine Ow.iconst (pc' := 68) (x := 0) B e15_67 ?_
 refine Ow.iload (pc' := 70) B e15_68 ?_
 refine Ow.Go.old (fun o17 => ?_)
 refine Ow.callStatic (pc' := 73) (W := 0) (k' := 0) (n' := 0) (argsL := [(.ref pa2), (.int 0), (.ref pa3), (.int 0), (.int 1)]) (rest := []) B e15_70 (w114 hw) (w115 hw) (w116 hw) (w117 hw) (con_mismatch_60 hw G GS (pa0 := pa2) (pa1 := pa3) (px0 := px0) (px1 := px1) (pk0 := pk0) (pk1 := pk1) o17 hf6 hf7 (hk0) (hk1)) pd10 ?_
 intro vq18 h19 S20 q18 zh19
 obtain ⟨rfl, rfl, rfl⟩ := q18
 refine Ow.Go.nr (S' := [pa0]) (st' := [(.int 0)]) ?_
 refine Ow.ifT (pc' := 80) B e15_73 (by decide) ?_
 refine Ow.iconst (pc' := 81) (x := 0) B e15_80 ?_
 exact Ow.retI (S' := []) (t := .boolean) B e15_81 (⟨rfl, rfl, rfl⟩)
set_option maxRecDepth 65536 in
set_option maxHeartbeats 40000000 in
theorem con_startsWith_62 (hw : Hw a0 Z) (G : Ow.Glo Z cz sf) {u0 u1 u2 : Nat} (GS : GlS Z u0 u1 u2) {pa0 : Nat} {pa1 : Nat} {pa2 : Nat} {pa3 : Nat} {px0 : Int32} {px1 : Int32} {pk0 : ClassId} {pk1 : ClassId} {h0 : Heap} (O0 : Old Z n0 h0) (hf0 : Exa Z h0 pa0 "java/lang/String") (hf1 : Fld Z h0 pa0 "java/lang/String" "coder" "B" (.int 0)) (hf2 : Fld Z h0 pa0 "java/lang/String" "value" "[B" (.ref pa2)) (hf3 : Exa Z h0 pa1 "java/lang/String") (hf4 : Fld Z h0 pa1 "java/lang/String" "coder" "B" (.int 0)) (hf5 : Fld Z h0 pa1 "java/lang/String" "value" "[B" (.ref pa3)) (hf6 : Arv Z h0 pa2 pk0 .byte (2 : Int32) [(.int px0.toInt8.toInt32), (.int px1.toInt8.toInt32)] (.int 0)) (hf7 : Arv Z h0 pa3 pk1 .byte (1 : Int32) [(.int 47)] (.int 0)) (hk0 : alP px0) (hk1 : alP px1) :
    Ow.Con l Z EL1 n0 my13 jdk_42_method_76_code 2 (Option.some Jvm.ClassFile.FieldType.boolean) [] ({ frames := 3, cells := 0, slots := 0, locals := 46 } : Room) #[(.ref pa0), (.ref pa1)] [pa0] h0 (fun v h S' => (v = some (.int 0) ∧ h = h0 ∧ S' = [])) := by
 refine Ow.Con.enter (Ls := #[.val (.ref pa0), .val (.ref pa1)]) (plainFor_of_name pn1) O0 (hEW hw) (hSA hw) ?_
 intro p e s m below meth c B
 have z0 := Ow.old_le O0
 have lu0 : (u0 : Nat) < n0 := O0.1 ▸ GS.2.1.lt
 have lu1 : (u1 : Nat) < n0 := O0.1 ▸ GS.2.2.2.2.1.lt
 have lu2 : (u2 : Nat) < n0 := O0.1 ▸ GS.2.2.2.2.2.2.lt
 have lpa0 : (pa0 : Nat) < h0.size := hf0.lt
 have lpa1 : (pa1 : Nat) < h0.size := hf3.lt
 have lpa2 : (pa2 : Nat) < h0.size := hf6.lt
 have lpa3 : (pa3 : Nat) < h0.size := hf7.lt
 refine Ow.aloadN (pc' := 1) B e14_0 ?_
 refine Ow.aloadN (pc' := 2) B e14_1 ?_
 refine Ow.iconst (pc' := 3) (x := 0) B e14_2 ?_
 refine Ow.Go.old (fun o1 => ?_)
 refine Ow.callVirtual (pc' := 6) (W := 0) (k' := 0) (n' := 0) (argsL := [(.ref pa1), (.int 0)]) (rest := []) (K := "java/lang/String") B e14_3 (w99 hw) (w100 hw) (w102 hw) (w102 hw) (w101 hw) (w6 hw) (w103 hw) hf0 (con_startsWith_61 hw G GS (pa0 := pa0) (pa1 := pa1) (pa2 := pa2) (pa3 := pa3) (px0 := px0) (px1 := px1) (pk0 := pk0) (pk1 := pk1) o1 hf0 hf1 hf2 hf3 hf4 hf5 hf6 hf7 (hk0) (hk1)) pd11 ?_
 intro vq2 h3 S4 q2 zh3
 obtain ⟨rfl, rfl, rfl⟩ := q2
 refine Ow.Go.nr (S' := [pa0]) (st' := [(.int 0)]) ?_
 exact Ow.retI (S' := []) (t := .boolean) B e14_6 (⟨rfl, rfl, rfl⟩)
set_option maxRecDepth 65536 in
set_option maxHeartbeats 40000000 in
theorem con_mismatch_63 (hw : Hw a0 Z) (G : Ow.Glo Z cz sf) {u0 u1 u2 : Nat} (GS : GlS Z u0 u1 u2) {pa0 : Nat} {pa1 : Nat} {px0 : Int32} {px1 : Int32} {pk0 : ClassId} {pk1 : ClassId} {h0 : Heap} (O0 : Old Z n0 h0) (hf0 : Arv Z h0 pa0 pk0 .byte (2 : Int32) [(.int px0.toInt8.toInt32), (.int px1.toInt8.toInt32)] (.int 0)) (hf1 : Arv Z h0 pa1 pk1 .byte (1 : Int32) [(.int 47)] (.int 0)) (hk0 : alP px0) (hk1 : alP px1) :
    Ow.Con l Z EL1 n0 my11 jdk_48_method_14_code 8 (Option.some Jvm.ClassFile.FieldType.int) [] ({ frames := 0, cells := 0, slots := 0, locals := 0 } : Room) #[(.ref pa0), (.int 1), (.ref pa1), (.int 0), (.int 1)] [] h0 (fun v h S' => (v = some (.int 0) ∧ h = h0 ∧ S' = [])) := by
 refine Ow.Con.enter (Ls := #[.val (.ref pa0), .val (.int 1), .val (.ref pa1), .val (.int 0), .val (.int 1), .unset, .unset, .unset]) (plainFor_of_name pn6) O0 (hEW hw) (hSA hw) ?_
 intro p e s m below meth c B
 have z0 := Ow.old_le O0
 have lu0 : (u0 : Nat) < n0 := O0.1 ▸ GS.2.1.lt
 have lu1 : (u1 : Nat) < n0 := O0.1 ▸ GS.2.2.2.2.1.lt
 have lu2 : (u2 : Nat) < n0 := O0.1 ▸ GS.2.2.2.2.2.2.lt
 have lpa0 : (pa0 : Nat) < h0.size := hf0.lt
 have lpa1 : (pa1 : Nat) < h0.size := hf1.lt
 have i0 := hk0
 have e0 := own_al8 i0
 unfold alP at i0
 have i1 := hk1
 have e1 := own_al8 i1
 unfold alP at i1
 refine Ow.iconst (pc' := 1) (x := 0) B e18_0 ?_
 refine Ow.istore (pc' := 3) (Ls' := #[.val (.ref pa0), .val (.int 1), .val (.ref pa1), .val (.int 0), .val (.int 1), .val (.int 0), .unset, .unset]) B e18_1 ?_
 refine Ow.iload (pc' := 5) B e18_3 ?_
 refine Ow.bipush (pc' := 7) (x := 7) B e18_5 ?_
 refine Ow.icmpT (pc' := 70) B e18_7 (by decide) ?_
 refine Ow.iload (pc' := 72) B e18_70 ?_
 refine Ow.iload (pc' := 74) B e18_72 ?_
 refine Ow.icmpF (pc' := 77) B e18_74 (by decide) ?_
 refine Ow.aloadN (pc' := 78) B e18_77 ?_
 refine Ow.iloadN (pc' := 79) B e18_78 ?_
 refine Ow.iload (pc' := 81) B e18_79 ?_
 refine Ow.iadd (pc' := 82) (z := 1) B e18_81 ?_
 refine Ow.baload (pc' := 83) B e18_82 hf0 ⟨by decide, by decide⟩ rfl ?_
 refine Ow.aloadN (pc' := 84) B e18_83 ?_
 refine Ow.iloadN (pc' := 85) B e18_84 ?_
 refine Ow.iload (pc' := 87) B e18_85 ?_
 refine Ow.iadd (pc' := 88) (z := 0) B e18_87 ?_
 refine Ow.baload (pc' := 89) B e18_88 hf1 ⟨by decide, by decide⟩ rfl ?_
 refine Ow.icmpF (pc' := 92) B e18_89 (feq ((by simp only [Int32.lt_iff_toInt_lt, ← Int32.toInt_inj, Int32.reduceToInt]; omega))).1 ?_
 refine Ow.iload (pc' := 94) B e18_92 ?_
 exact Ow.retI (S' := []) (t := .int) B e18_94 (⟨rfl, rfl, rfl⟩)
set_option maxRecDepth 65536 in
set_option maxHeartbeats 40000000 in
theorem con_startsWith_64 (hw : Hw a0 Z) (G : Ow.Glo Z cz sf) {u0 u1 u2 : Nat} (GS : GlS Z u0 u1 u2) {pa0 : Nat} {pa1 : Nat} {pa2 : Nat} {pa3 : Nat} {px0 : Int32} {px1 : Int32} {pk0 : ClassId} {pk1 : ClassId} {h0 : Heap} (O0 : Old Z n0 h0) (hf0 : Exa Z h0 pa0 "java/lang/String") (hf1 : Fld Z h0 pa0 "java/lang/String" "coder" "B" (.int 0)) (hf2 : Fld Z h0 pa0 "java/lang/String" "value" "[B" (.ref pa2)) (hf3 : Exa Z h0 pa1 "java/lang/String") (hf4 : Fld Z h0 pa1 "java/lang/String" "coder" "B" (.int 0)) (hf5 : Fld Z h0 pa1 "java/lang/String" "value" "[B" (.ref pa3)) (hf6 : Arv Z h0 pa2 pk0 .byte (2 : Int32) [(.int px0.toInt8.toInt32), (.int px1.toInt8.toInt32)] (.int 0)) (hf7 : Arv Z h0 pa3 pk1 .byte (1 : Int32) [(.int 47)] (.int 0)) (hk0 : alP px0) (hk1 : alP px1) :
    Ow.Con l Z EL1 n0 my12 jdk_42_method_75_code 8 (Option.some Jvm.ClassFile.FieldType.boolean) [] ({ frames := 2, cells := 0, slots := 0, locals := 27 } : Room) #[(.ref pa0), (.ref pa1), (.int 1)] [pa0] h0 (fun v h S' => (v = some (.int 0) ∧ h = h0 ∧ S' = [])) := by
 refine Ow.Con.enter (Ls := #[.val (.ref pa0), .val (.ref pa1), .val (.int 1), .unset, .unset, .unset, .unset, .unset]) (plainFor_of_name pn1) O0 (hEW hw) (hSA hw) ?_
 intro p e s m below meth c B
 have z0 := Ow.old_le O0
 have lu0 : (u0 : Nat) < n0 := O0.1 ▸ GS.2.1.lt
 have lu1 : (u1 : Nat) < n0 := O0.1 ▸ GS.2.2.2.2.1.lt
 have lu2 : (u2 : Nat) < n0 := O0.1 ▸ GS.2.2.2.2.2.2.lt
 have lpa0 : (pa0 : Nat) < h0.size := hf0.lt
 have lpa1 : (pa1 : Nat) < h0.size := hf3.lt
 have lpa2 : (pa2 : Nat) < h0.size := hf6.lt
 have lpa3 : (pa3 : Nat) < h0.size := hf7.lt
 refine Ow.iloadN (pc' := 1) B e15_0 ?_
 refine Ow.ifF (pc' := 4) B e15_1 (by decide) ?_
 refine Ow.iloadN (pc' := 5) B e15_4 ?_
 refine Ow.aloadN (pc' := 6) B e15_5 ?_
 refine Ow.Go.old (fun o1 => ?_)
 refine Ow.callVirtual (pc' := 9) (W := 1) (k' := 0) (n' := 0) (argsL := []) (rest := [(.int 1)]) (K := "java/lang/String") B e15_6 (w104 hw) (w105 hw) (w107 hw) (w107 hw) (w106 hw) (w6 hw) (w108 hw) hf0 (con_length_59 hw G GS (pa0 := pa0) (pa1 := pa2) (px0 := px0) (px1 := px1) (pk0 := pk0) o1 hf0 hf1 hf2 hf6) pd9 ?_
 intro vq2 h3 S4 q2 zh3
 obtain ⟨rfl, rfl, rfl⟩ := q2
 refine Ow.Go.nr (S' := [pa0]) (st' := [(.int 2), (.int 1)]) ?_
 refine Ow.aloadN (pc' := 10) B e15_9 ?_
 refine Ow.Go.old (fun o5 => ?_)
 refine Ow.callVirtual (pc' := 13) (W := 2) (k' := 0) (n' := 0) (argsL := []) (rest := [(.int 2), (.int 1)]) (K := "java/lang/String") B e15_10 (w104 hw) (w105 hw) (w107 hw) (w107 hw) (w106 hw) (w6 hw) (w108 hw) hf3 (con_length_6 hw G GS (pa0 := pa1) (pa1 := pa3) (pk0 := pk1) o5 hf3 hf4 hf5 hf7) pd9 ?_
 intro vq6 h7 S8 q6 zh7
 obtain ⟨rfl, rfl, rfl⟩ := q6
 refine Ow.Go.nr (S' := [pa0]) (st' := [(.int 1), (.int 2), (.int 1)]) ?_
 refine Ow.isub (pc' := 14) (z := 1) B e15_13 ?_
 refine Ow.icmpT (pc' := 19) B e15_14 (by decide) ?_
 refine Ow.aloadN (pc' := 20) B e15_19 ?_
 refine Ow.getfield (pc' := 23) B e15_20 (w35 hw) Via.refl hf2 ?_
 refine Ow.astoreN (pc' := 24) (Ls' := #[.val (.ref pa0), .val (.ref pa1), .val (.int 1), .val (.ref pa2), .unset, .unset, .unset, .unset]) B e15_23 ?_
 refine Ow.aloadN (pc' := 25) B e15_24 ?_
 refine Ow.getfield (pc' := 28) B e15_25 (w35 hw) Via.refl hf5 ?_
 refine Ow.astore (pc' := 30) (Ls' := #[.val (.ref pa0), .val (.ref pa1), .val (.int 1), .val (.ref pa2), .val (.ref pa3), .unset, .unset, .unset]) B e15_28 ?_
 refine Ow.iconst (pc' := 31) (x := 0) B e15_30 ?_
 refine Ow.istore (pc' := 33) (Ls' := #[.val (.ref pa0), .val (.ref pa1), .val (.int 1), .val (.ref pa2), .val (.ref pa3), .val (.int 0), .unset, .unset]) B e15_31 ?_
 refine Ow.aload (pc' := 35) B e15_33 ?_
 refine Ow.arrlen (pc' := 36) B e15_35 hf7 ?_
 refine Ow.istore (pc' := 38) (Ls' := #[.val (.ref pa0), .val (.ref pa1), .val (.int 1), .val (.ref pa2), .val (.ref pa3), .val (.int 0), .val (.int 1), .unset]) B e15_36 ?_
 refine Ow.aloadN (pc' := 39) B e15_38 ?_
 refine Ow.Go.old (fun o9 => ?_)
 refine Ow.callVirtual (pc' := 42) (W := 0) (k' := 0) (n' := 0) (argsL := []) (rest := []) (K := "java/lang/String") B e15_39 (w109 hw) (w110 hw) (w112 hw) (w112 hw) (w111 hw) (w6 hw) (w113 hw) hf0 (con_coder_3 hw G GS (pa0 := pa0) o9 hf1) pd8 ?_
 intro vq10 h11 S12 q10 zh11
 obtain ⟨rfl, rfl, rfl⟩ := q10
 refine Ow.Go.nr (S' := [pa0]) (st' := [(.int 0)]) ?_
 refine Ow.istore (pc' := 44) (Ls' := #[.val (.ref pa0), .val (.ref pa1), .val (.int 1), .val (.ref pa2), .val (.ref pa3), .val (.int 0), .val (.int 1), .val (.int 0)]) B e15_42 ?_
 refine Ow.iload (pc' := 46) B e15_44 ?_
 refine Ow.aloadN (pc' := 47) B e15_46 ?_
 refine Ow.Go.old (fun o13 => ?_)
 refine Ow.callVirtual (pc' := 50) (W := 1) (k' := 0) (n' := 0) (argsL := []) (rest := [(.int 0)]) (K := "java/lang/String") B e15_47 (w109 hw) (w110 hw) (w112 hw) (w112 hw) (w111 hw) (w6 hw) (w113 hw) hf3 (con_coder_5 hw G GS (pa0 := pa1) o13 hf4) pd8 ?_
 intro vq14 h15 S16 q14 zh15
 obtain ⟨rfl, rfl, rfl⟩ := q14
 refine Ow.Go.nr (S' := [pa0]) (st' := [(.int 0), (.int 0)]) ?_
 refine Ow.icmpF (pc' := 53) B e15_50 (by decide) ?_
 refine Ow.iload (pc' := 55) B e15_53 ?_
 refine Ow.iconst (pc' := 56) (x := 1) B e15_55 ?_
 refine Ow.icmpT (pc' := 63) B e15_56 (by decide) ?_
 refine Ow.aloadN (pc' := 64) B e15_63 ?_
 refine Ow.iloadN (pc' := 65) B e15_64 ?_
 refine Ow.aload (pc' := 67) B e15_65 ?_
 refine Ow.iconst (pc' := 68) (x := 0) B e15_67 ?_
 refine Ow.iload (pc' := 70) B e15_68 ?_
 refine Ow.Go.old (fun o17 => ?_)
 refine Ow.callStatic (pc' := 73) (W := 0) (k' := 0) (n' := 0) (argsL := [(.ref pa2), (.int 1), (.ref pa3), (.int 0), (.int 1)]) (rest := []) B e15_70 (w114 hw) (w115 hw) (w116 hw) (w117 hw) (con_mismatch_63 hw G GS (pa0 := pa2) (pa1 := pa3) (px0 := px0) (px1 := px1) (pk0 := pk0) (pk1 := pk1) o17 hf6 hf7 (hk0) (hk1)) pd10 ?_
 intro vq18 h19 S20 q18 zh19
 obtain ⟨rfl, rfl, rfl⟩ := q18
 refine Ow.Go.nr (S' := [pa0]) (st' := [(.int 0)]) ?_
 refine Ow.ifT (pc' := 80) B e15_73 (by decide) ?_
 refine Ow.iconst (pc' := 81) (x := 0) B e15_80 ?_
 exact Ow.retI (S' := []) (t := .boolean) B e15_81 (⟨rfl, rfl, rfl⟩)
set_option maxRecDepth 65536 in
set_option maxHeartbeats 40000000 in
theorem con_endsWith_65 (hw : Hw a0 Z) (G : Ow.Glo Z cz sf) {u0 u1 u2 : Nat} (GS : GlS Z u0 u1 u2) {pa0 : Nat} {pa1 : Nat} {pa2 : Nat} {pa3 : Nat} {px0 : Int32} {px1 : Int32} {pk0 : ClassId} {pk1 : ClassId} {h0 : Heap} (O0 : Old Z n0 h0) (hf0 : Exa Z h0 pa0 "java/lang/String") (hf1 : Fld Z h0 pa0 "java/lang/String" "coder" "B" (.int 0)) (hf2 : Fld Z h0 pa0 "java/lang/String" "value" "[B" (.ref pa2)) (hf3 : Exa Z h0 pa1 "java/lang/String") (hf4 : Fld Z h0 pa1 "java/lang/String" "coder" "B" (.int 0)) (hf5 : Fld Z h0 pa1 "java/lang/String" "value" "[B" (.ref pa3)) (hf6 : Arv Z h0 pa2 pk0 .byte (2 : Int32) [(.int px0.toInt8.toInt32), (.int px1.toInt8.toInt32)] (.int 0)) (hf7 : Arv Z h0 pa3 pk1 .byte (1 : Int32) [(.int 47)] (.int 0)) (hk0 : alP px0) (hk1 : alP px1) :
    Ow.Con l Z EL1 n0 my14 jdk_42_method_77_code 2 (Option.some Jvm.ClassFile.FieldType.boolean) [] ({ frames := 3, cells := 0, slots := 0, locals := 46 } : Room) #[(.ref pa0), (.ref pa1)] [pa0] h0 (fun v h S' => (v = some (.int 0) ∧ h = h0 ∧ S' = [])) := by
 refine Ow.Con.enter (Ls := #[.val (.ref pa0), .val (.ref pa1)]) (plainFor_of_name pn1) O0 (hEW hw) (hSA hw) ?_
 intro p e s m below meth c B
 have z0 := Ow.old_le O0
 have lu0 : (u0 : Nat) < n0 := O0.1 ▸ GS.2.1.lt
 have lu1 : (u1 : Nat) < n0 := O0.1 ▸ GS.2.2.2.2.1.lt
 have lu2 : (u2 : Nat) < n0 := O0.1 ▸ GS.2.2.2.2.2.2.lt
 have lpa0 : (pa0 : Nat) < h0.size := hf0.lt
 have lpa1 : (pa1 : Nat) < h0.size := hf3.lt
 have lpa2 : (pa2 : Nat) < h0.size := hf6.lt
 have lpa3 : (pa3 : Nat) < h0.size := hf7.lt
 refine Ow.aloadN (pc' := 1) B e19_0 ?_
 refine Ow.aloadN (pc' := 2) B e19_1 ?_
 refine Ow.aloadN (pc' := 3) B e19_2 ?_
 refine Ow.Go.old (fun o1 => ?_)
 refine Ow.callVirtual (pc' := 6) (W := 2) (k' := 0) (n' := 0) (argsL := []) (rest := [(.ref pa1), (.ref pa0)]) (K := "java/lang/String") B e19_3 (w104 hw) (w105 hw) (w107 hw) (w107 hw) (w106 hw) (w6 hw) (w108 hw) hf0 (con_length_59 hw G GS (pa0 := pa0) (pa1 := pa2) (px0 := px0) (px1 := px1) (pk0 := pk0) o1 hf0 hf1 hf2 hf6) pd9 ?_
 intro vq2 h3 S4 q2 zh3
 obtain ⟨rfl, rfl, rfl⟩ := q2
 refine Ow.Go.nr (S' := [pa0]) (st' := [(.int 2), (.ref pa1), (.ref pa0)]) ?_
 refine Ow.aloadN (pc' := 7) B e19_6 ?_
 refine Ow.Go.old (fun o5 => ?_)
 refine Ow.callVirtual (pc' := 10) (W := 3) (k' := 0) (n' := 0) (argsL := []) (rest := [(.int 2), (.ref pa1), (.ref pa0)]) (K := "java/lang/String") B e19_7 (w104 hw) (w105 hw) (w107 hw) (w107 hw) (w106 hw) (w6 hw) (w108 hw) hf3 (con_length_6 hw G GS (pa0 := pa1) (pa1 := pa3) (pk0 := pk1) o5 hf3 hf4 hf5 hf7) pd9 ?_
 intro vq6 h7 S8 q6 zh7
 obtain ⟨rfl, rfl, rfl⟩ := q6
 refine Ow.Go.nr (S' := [pa0]) (st' := [(.int 1), (.int 2), (.ref pa1), (.ref pa0)]) ?_
 refine Ow.isub (pc' := 11) (z := 1) B e19_10 ?_
 refine Ow.Go.old (fun o9 => ?_)
 refine Ow.callVirtual (pc' := 14) (W := 0) (k' := 0) (n' := 0) (argsL := [(.ref pa1), (.int 1)]) (rest := []) (K := "java/lang/String") B e19_11 (w99 hw) (w100 hw) (w102 hw) (w102 hw) (w101 hw) (w6 hw) (w103 hw) hf0 (con_startsWith_64 hw G GS (pa0 := pa0) (pa1 := pa1) (pa2 := pa2) (pa3 := pa3) (px0 := px0) (px1 := px1) (pk0 := pk0) (pk1 := pk1) o9 hf0 hf1 hf2 hf3 hf4 hf5 hf6 hf7 (hk0) (hk1)) pd11 ?_
 intro vq10 h11 S12 q10 zh11
 obtain ⟨rfl, rfl, rfl⟩ := q10
 refine Ow.Go.nr (S' := [pa0]) (st' := [(.int 0)]) ?_
 exact Ow.retI (S' := []) (t := .boolean) B e19_14 (⟨rfl, rfl, rfl⟩)
set_option maxRecDepth 65536 in
set_option maxHeartbeats 40000000 in
theorem con_checkFromToIndex_66 (hw : Hw a0 Z) (G : Ow.Glo Z cz sf) {u0 u1 u2 : Nat} (GS : GlS Z u0 u1 u2) {pv0 : Value} {h0 : Heap} (O0 : Old Z n0 h0) (hv_pv0 : pv0.isRef = true) :
    Ow.Con l Z EL1 n0 my15 jdk_41_method_12_code 4 (Option.some Jvm.ClassFile.FieldType.int) [] ({ frames := 0, cells := 0, slots := 0, locals := 0 } : Room) #[(.int 0), (.int 2), (.int 2), pv0] [] h0 (fun v h S' => (v = some (.int 0) ∧ h = h0 ∧ S' = [])) := by
 rcases ref_cases hv_pv0 with rfl | ⟨sa_pv0, rfl⟩
 ·refine Ow.Con.enter (Ls := #[.val (.int 0), .val (.int 2), .val (.int 2), .val .null]) (plainFor_of_name pn7) O0 (hEW hw) (hSA hw) ?_
  intro p e s m below meth c B
  have z0 := Ow.old_le O0
  have lu0 : (u0 : Nat) < n0 := O0.1 ▸ GS.2.1.lt
  have lu1 : (u1 : Nat) < n0 := O0.1 ▸ GS.2.2.2.2.1.lt
  have lu2 : (u2 : Nat) < n0 := O0.1 ▸ GS.2.2.2.2.2.2.lt
  refine Ow.iloadN (pc' := 1) B e22_0 ?_
  refine Ow.ifF (pc' := 4) B e22_1 (by decide) ?_
  refine Ow.iloadN (pc' := 5) B e22_4 ?_
  refine Ow.iloadN (pc' := 6) B e22_5 ?_
  refine Ow.icmpF (pc' := 9) B e22_6 (by decide) ?_
  refine Ow.iloadN (pc' := 10) B e22_9 ?_
  refine Ow.iloadN (pc' := 11) B e22_10 ?_
  refine Ow.icmpT (pc' := 22) B e22_11 (by decide) ?_
  refine Ow.iloadN (pc' := 23) B e22_22 ?_
  exact Ow.retI (S' := []) (t := .int) B e22_23 (⟨rfl, rfl, rfl⟩)
 ·refine Ow.Con.enter (Ls := #[.val (.int 0), .val (.int 2), .val (.int 2), .val (.ref sa_pv0)]) (plainFor_of_name pn7) O0 (hEW hw) (hSA hw) ?_
  intro p e s m below meth c B
  have z0 := Ow.old_le O0
  have lu0 : (u0 : Nat) < n0 := O0.1 ▸ GS.2.1.lt
  have lu1 : (u1 : Nat) < n0 := O0.1 ▸ GS.2.2.2.2.1.lt
  have lu2 : (u2 : Nat) < n0 := O0.1 ▸ GS.2.2.2.2.2.2.lt
  refine Ow.iloadN (pc' := 1) B e22_0 ?_
  refine Ow.ifF (pc' := 4) B e22_1 (by decide) ?_
  refine Ow.iloadN (pc' := 5) B e22_4 ?_
  refine Ow.iloadN (pc' := 6) B e22_5 ?_
  refine Ow.icmpF (pc' := 9) B e22_6 (by decide) ?_
  refine Ow.iloadN (pc' := 10) B e22_9 ?_
  refine Ow.iloadN (pc' := 11) B e22_10 ?_
  refine Ow.icmpT (pc' := 22) B e22_11 (by decide) ?_
  refine Ow.iloadN (pc' := 23) B e22_22 ?_
  exact Ow.retI (S' := []) (t := .int) B e22_23 (⟨rfl, rfl, rfl⟩)
set_option maxRecDepth 65536 in
set_option maxHeartbeats 40000000 in
theorem con_checkBoundsBeginEnd_67 (hw : Hw a0 Z) (G : Ow.Glo Z cz sf) {u0 u1 u2 : Nat} (GS : GlS Z u0 u1 u2) {h0 : Heap} (O0 : Old Z n0 h0) :
    Ow.Con l Z EL1 n0 my16 jdk_42_method_158_code 3 (Option.none : Option Jvm.ClassFile.FieldType) [] ({ frames := 1, cells := 0, slots := 0, locals := 15 } : Room) #[(.int 0), (.int 2), (.int 2)] [] h0 (fun v h S' => (v = none ∧ h = h0 ∧ S' = [])) := by
 refine Ow.Con.enter (Ls := #[.val (.int 0), .val (.int 2), .val (.int 2)]) (plainFor_of_name pn1) O0 (hEW hw) (hSA hw) ?_
 intro p e s m below meth c B
 have z0 := Ow.old_le O0
 have lu0 : (u0 : Nat) < n0 := O0.1 ▸ GS.2.1.lt
 have lu1 : (u1 : Nat) < n0 := O0.1 ▸ GS.2.2.2.2.1.lt
 have lu2 : (u2 : Nat) < n0 := O0.1 ▸ GS.2.2.2.2.2.2.lt
 refine Ow.iloadN (pc' := 1) B e21_0 ?_
 refine Ow.iloadN (pc' := 2) B e21_1 ?_
 refine Ow.iloadN (pc' := 3) B e21_2 ?_
 refine Ow.getstatic (pc' := 6) B e21_3 (w132 hw) Via.refl G.2.2.1 ?_
 refine Ow.Go.old (fun o1 => ?_)
 refine Ow.callStatic (pc' := 9) (W := 0) (k' := 0) (n' := 0) (argsL := [(.int 0), (.int 2), (.int 2), sf]) (rest := []) B e21_6 (w134 hw) (w135 hw) (w133 hw) (w136 hw) (con_checkFromToIndex_66 hw G GS (pv0 := sf) o1 (G.2.2.2)) pd13 ?_
 intro vq2 h3 S4 q2 zh3
 obtain ⟨rfl, rfl, rfl⟩ := q2
 refine Ow.Go.nr (S' := []) (st' := [(.int 0)]) ?_
 refine Ow.pop (pc' := 10) B e21_9 ?_
 exact Ow.retV (S' := []) B e21_10 (⟨rfl, rfl, rfl⟩)
set_option maxRecDepth 65536 in
set_option maxHeartbeats 40000000 in
theorem con_substring_68 (hw : Hw a0 Z) (G : Ow.Glo Z cz sf) {u0 u1 u2 : Nat} (GS : GlS Z u0 u1 u2) {pa0 : Nat} {pa1 : Nat} {px0 : Int32} {px1 : Int32} {pk0 : ClassId} {h0 : Heap} (O0 : Old Z n0 h0) (hf0 : Exa Z h0 pa0 "java/lang/String") (hf1 : Fld Z h0 pa0 "java/lang/String" "coder" "B" (.int 0)) (hf2 : Fld Z h0 pa0 "java/lang/String" "value" "[B" (.ref pa1)) (hf3 : Arv Z h0 pa1 pk0 .byte (2 : Int32) [(.int px0.toInt8.toInt32), (.int px1.toInt8.toInt32)] (.int 0)) :
    Ow.Con l Z EL1 n0 my17 jdk_42_method_92_code 5 (Option.some (Jvm.ClassFile.FieldType.object "java/lang/String")) [] ({ frames := 2, cells := 0, slots := 0, locals := 29 } : Room) #[(.ref pa0), (.int 0), (.int 2)] [pa0] h0 (fun v h S' => (v = some (.ref pa0) ∧ h = h0 ∧ S' = [])) := by
 refine Ow.Con.enter (Ls := #[.val (.ref pa0), .val (.int 0), .val (.int 2), .unset, .unset]) (plainFor_of_name pn1) O0 (hEW hw) (hSA hw) ?_
 intro p e s m below meth c B
 have z0 := Ow.old_le O0
 have lu0 : (u0 : Nat) < n0 := O0.1 ▸ GS.2.1.lt
 have lu1 : (u1 : Nat) < n0 := O0.1 ▸ GS.2.2.2.2.1.lt
 have lu2 : (u2 : Nat) < n0 := O0.1 ▸ GS.2.2.2.2.2.2.lt
 have lpa0 : (pa0 : Nat) < h0.size := hf0.lt
 have lpa1 : (pa1 : Nat) < h0.size := hf3.lt
 refine Ow.aloadN (pc' := 1) B e20_0 ?_
 refine Ow.Go.old (fun o1 => ?_)
 refine Ow.callVirtual (pc' := 4) (W := 0) (k' := 0) (n' := 0) (argsL := []) (rest := []) (K := "java/lang/String") B e20_1 (w104 hw) (w105 hw) (w107 hw) (w107 hw) (w106 hw) (w6 hw) (w108 hw) hf0 (con_length_59 hw G GS (pa0 := pa0) (pa1 := pa1) (px0 := px0) (px1 := px1) (pk0 := pk0) o1 hf0 hf1 hf2 hf3) pd9 ?_
 intro vq2 h3 S4 q2 zh3
 obtain ⟨rfl, rfl, rfl⟩ := q2
 refine Ow.Go.nr (S' := [pa0]) (st' := [(.int 2)]) ?_
 refine Ow.istoreN (pc' := 5) (Ls' := #[.val (.ref pa0), .val (.int 0), .val (.int 2), .val (.int 2), .unset]) B e20_4 ?_
 refine Ow.iloadN (pc' := 6) B e20_5 ?_
 refine Ow.iloadN (pc' := 7) B e20_6 ?_
 refine Ow.iloadN (pc' := 8) B e20_7 ?_
 refine Ow.Go.old (fun o5 => ?_)
 refine Ow.callStatic (pc' := 11) (W := 0) (k' := 0) (n' := 0) (argsL := [(.int 0), (.int 2), (.int 2)]) (rest := []) B e20_8 (w129 hw) (w130 hw) (w6 hw) (w131 hw) (con_checkBoundsBeginEnd_67 hw G GS o5) pd14 ?_
 intro vq6 h7 S8 q6 zh7
 obtain ⟨rfl, rfl, rfl⟩ := q6
 refine Ow.Go.nr (S' := [pa0]) (st' := []) ?_
 refine Ow.iloadN (pc' := 12) B e20_11 ?_
 refine Ow.ifF (pc' := 15) B e20_12 (by decide) ?_
 refine Ow.iloadN (pc' := 16) B e20_15 ?_
 refine Ow.iloadN (pc' := 17) B e20_16 ?_
 refine Ow.icmpF (pc' := 20) B e20_17 (by decide) ?_
 refine Ow.aloadN (pc' := 21) B e20_20 ?_
 exact Ow.retA (S' := []) (t := (.object "java/lang/String")) B e20_21 (⟨rfl, rfl, rfl⟩)
set_option maxRecDepth 65536 in
set_option maxHeartbeats 40000000 in
theorem con_name_69 (hw : Hw a0 Z) (G : Ow.Glo Z cz sf) {u0 u1 u2 : Nat} (GS : GlS Z u0 u1 u2) {pa0 : Nat} {pa1 : Nat} {px0 : Int32} {px1 : Int32} {pk0 : ClassId} {h0 : Heap} (O0 : Old Z n0 h0) (hf0 : Exa Z h0 pa0 "java/lang/String") (hf1 : Fld Z h0 pa0 "java/lang/String" "coder" "B" (.int 0)) (hf2 : Fld Z h0 pa0 "java/lang/String" "value" "[B" (.ref pa1)) (hf3 : Arv Z h0 pa1 pk0 .byte (2 : Int32) [(.int px0.toInt8.toInt32), (.int px1.toInt8.toInt32)] (.int 0)) (hk0 : alP px0) (hk1 : alP px1) :
    Ow.Con l Z EL1 n0 my18 prog_31_method_4_code 3 (Option.some (Jvm.ClassFile.FieldType.object "java/lang/String")) [] ({ frames := 4, cells := 4, slots := 16, locals := 59 } : Room) #[(.ref pa0)] [pa0] h0 (fun v h S' => (v = some (.ref pa0) ∧ Keep h0 h [] ∧ S' = [])) := by
 refine Ow.Con.enter (Ls := #[.val (.ref pa0), .unset, .unset]) (plainFor_of_name pn4) O0 (hEW hw) (hSA hw) ?_
 intro p e s m below meth c B
 have z0 := Ow.old_le O0
 have lu0 : (u0 : Nat) < n0 := O0.1 ▸ GS.2.1.lt
 have lu1 : (u1 : Nat) < n0 := O0.1 ▸ GS.2.2.2.2.1.lt
 have lu2 : (u2 : Nat) < n0 := O0.1 ▸ GS.2.2.2.2.2.2.lt
 have lpa0 : (pa0 : Nat) < h0.size := hf0.lt
 have lpa1 : (pa1 : Nat) < h0.size := hf3.lt
 refine Ow.aloadN (pc' := 1) B e13_0 ?_
 refine Ow.ldcText (pc' := 3) (k' := 2) (n' := 8) (nn := 4) (vs := [(.int 47)]) (z := 1) B e13_1 (w78 hw) (by decide) ⟨by decide, by decide⟩ (by decide) (by decide) ?_
 intro h2 a1 t3 kt3 Kh2 Ea1 Ca1 Va1 At3 Na1
 have zh2 := Kh2.1
 have la1 : (a1 : Nat) < h2.size := Ea1.lt
 have lt3 : (t3 : Nat) < h2.size := At3.lt
 have n4 : (pa0 : Nat) ≠ a1 ∧ (pa0 : Nat) ≠ t3 := Na1 pa0 (by simp)
 refine Ow.Go.old (fun o5 => ?_)
 have f6 := hf0.keep Kh2
 have f7 := hf1.keep Kh2 Ow.nin0
 have f8 := hf2.keep Kh2 Ow.nin0
 have f9 := hf3.keep Kh2 Ow.nin0
 refine Ow.callVirtual (pc' := 6) (W := 0) (k' := 2) (n' := 8) (argsL := [(.ref a1)]) (rest := []) (K := "java/lang/String") B e13_3 (w94 hw) (w95 hw) (w97 hw) (w97 hw) (w96 hw) (w6 hw) (w98 hw) f6 (con_startsWith_62 hw G GS (pa0 := pa0) (pa1 := a1) (pa2 := pa1) (pa3 := t3) (px0 := px0) (px1 := px1) (pk0 := pk0) (pk1 := kt3) o5 f6 f7 f8 Ea1 Ca1 Va1 f9 At3 (hk0) (hk1)) pd12 ?_
 intro vq10 h11 S12 q10 zh11
 obtain ⟨rfl, rfl, rfl⟩ := q10
 refine Ow.Go.nr (S' := [pa0]) (st' := [(.int 0)]) ?_
 refine Ow.ifT (pc' := 13) B e13_6 (by decide) ?_
 refine Ow.iconst (pc' := 14) (x := 0) B e13_13 ?_
 refine Ow.istoreN (pc' := 15) (Ls' := #[.val (.ref pa0), .val (.int 0), .unset]) B e13_14 ?_
 refine Ow.aloadN (pc' := 16) B e13_15 ?_
 refine Ow.ldcText (pc' := 18) (k' := 4) (n' := 16) (nn := 4) (vs := [(.int 47)]) (z := 1) B e13_16 (w78 hw) (by decide) ⟨by decide, by decide⟩ (by decide) (by decide) ?_
 intro h14 a13 t15 kt15 Kh14 Ea13 Ca13 Va13 At15 Na13
 have zh14 := Kh14.1
 have la13 : (a13 : Nat) < h14.size := Ea13.lt
 have lt15 : (t15 : Nat) < h14.size := At15.lt
 have n16 : (pa0 : Nat) ≠ a13 ∧ (pa0 : Nat) ≠ t15 := Na13 pa0 (by simp)
 refine Ow.Go.old (fun o17 => ?_)
 have f18 := f6.keep Kh14
 have f19 := f7.keep Kh14 Ow.nin0
 have f20 := f8.keep Kh14 Ow.nin0
 have f21 := f9.keep Kh14 Ow.nin0
 refine Ow.callVirtual (pc' := 21) (W := 0) (k' := 4) (n' := 16) (argsL := [(.ref a13)]) (rest := []) (K := "java/lang/String") B e13_18 (w118 hw) (w119 hw) (w121 hw) (w121 hw) (w120 hw) (w6 hw) (w122 hw) f18 (con_endsWith_65 hw G GS (pa0 := pa0) (pa1 := a13) (pa2 := pa1) (pa3 := t15) (px0 := px0) (px1 := px1) (pk0 := pk0) (pk1 := kt15) o17 f18 f19 f20 Ea13 Ca13 Va13 f21 At15 (hk0) (hk1)) pd12 ?_
 intro vq22 h23 S24 q22 zh23
 obtain ⟨rfl, rfl, rfl⟩ := q22
 refine Ow.Go.nr (S' := [pa0]) (st' := [(.int 0)]) ?_
 refine Ow.ifT (pc' := 33) B e13_21 (by decide) ?_
 refine Ow.aloadN (pc' := 34) B e13_33 ?_
 refine Ow.Go.old (fun o25 => ?_)
 refine Ow.callVirtual (pc' := 37) (W := 0) (k' := 4) (n' := 16) (argsL := []) (rest := []) (K := "java/lang/String") B e13_34 (w123 hw) (w105 hw) (w107 hw) (w107 hw) (w106 hw) (w6 hw) (w108 hw) f18 (con_length_59 hw G GS (pa0 := pa0) (pa1 := pa1) (px0 := px0) (px1 := px1) (pk0 := pk0) o25 f18 f19 f20 f21) pd9 ?_
 intro vq26 h27 S28 q26 zh27
 obtain ⟨rfl, rfl, rfl⟩ := q26
 refine Ow.Go.nr (S' := [pa0]) (st' := [(.int 2)]) ?_
 refine Ow.istoreN (pc' := 38) (Ls' := #[.val (.ref pa0), .val (.int 0), .val (.int 2)]) B e13_37 ?_
 refine Ow.aloadN (pc' := 39) B e13_38 ?_
 refine Ow.iloadN (pc' := 40) B e13_39 ?_
 refine Ow.iloadN (pc' := 41) B e13_40 ?_
 refine Ow.Go.old (fun o29 => ?_)
 refine Ow.callVirtual (pc' := 44) (W := 0) (k' := 4) (n' := 16) (argsL := [(.int 0), (.int 2)]) (rest := []) (K := "java/lang/String") B e13_41 (w124 hw) (w125 hw) (w127 hw) (w127 hw) (w126 hw) (w6 hw) (w128 hw) f18 (con_substring_68 hw G GS (pa0 := pa0) (pa1 := pa1) (px0 := px0) (px1 := px1) (pk0 := pk0) o29 f18 f19 f20 f21) pd15 ?_
 intro vq30 h31 S32 q30 zh31
 obtain ⟨rfl, rfl, rfl⟩ := q30
 refine Ow.Go.nr (S' := [pa0]) (st' := [(.ref pa0)]) ?_
 exact Ow.retA (S' := []) (t := (.object "java/lang/String")) B e13_44 (⟨rfl, (((Keep.refl _ []).trans Kh2 (fun _ q => nomatch q)).trans Kh14 (fun _ q => nomatch q)), rfl⟩)
set_option maxRecDepth 65536 in
set_option maxHeartbeats 40000000 in
theorem con_min_70 (hw : Hw a0 Z) (G : Ow.Glo Z cz sf) {u0 u1 u2 : Nat} (GS : GlS Z u0 u1 u2) {h0 : Heap} (O0 : Old Z n0 h0) :
    Ow.Con l Z EL1 n0 my26 jdk_29_method_69_code 2 (Option.some Jvm.ClassFile.FieldType.int) [] ({ frames := 0, cells := 0, slots := 0, locals := 0 } : Room) #[(.int 2), (.int 2)] [] h0 (fun v h S' => (v = some (.int 2) ∧ h = h0 ∧ S' = [])) := by
 refine Ow.Con.enter (Ls := #[.val (.int 2), .val (.int 2)]) (by decide +kernel) O0 (hEW hw) (hSA hw) ?_
 intro p e s m below meth c B
 have z0 := Ow.old_le O0
 have lu0 : (u0 : Nat) < n0 := O0.1 ▸ GS.2.1.lt
 have lu1 : (u1 : Nat) < n0 := O0.1 ▸ GS.2.2.2.2.1.lt
 have lu2 : (u2 : Nat) < n0 := O0.1 ▸ GS.2.2.2.2.2.2.lt
 refine Ow.iloadN (pc' := 1) B e35_0 ?_
 refine Ow.iloadN (pc' := 2) B e35_1 ?_
 refine Ow.icmpF (pc' := 5) B e35_2 (by decide) ?_
 refine Ow.iloadN (pc' := 6) B e35_5 ?_
 refine Ow.goto (pc' := 10) B e35_6 ?_
 exact Ow.retI (S' := []) (t := .int) B e35_10 (⟨rfl, rfl, rfl⟩)
set_option maxRecDepth 65536 in
set_option maxHeartbeats 40000000 in
theorem con_indexOfChar_71 (hw : Hw a0 Z) (G : Ow.Glo Z cz sf) {u0 u1 u2 : Nat} (GS : GlS Z u0 u1 u2) {pa0 : Nat} {px0 : Int32} {px1 : Int32} {pk0 : ClassId} {h0 : Heap} (O0 : Old Z n0 h0) (hf0 : Arv Z h0 pa0 pk0 .byte (2 : Int32) [(.int px0.toInt8.toInt32), (.int px1.toInt8.toInt32)] (.int 0)) (hk0 : alP px0) (hk1 : alP px1) :
    Ow.Con l Z EL1 n0 my27 jdk_43_method_23_code 6 (Option.some Jvm.ClassFile.FieldType.int) [] ({ frames := 0, cells := 0, slots := 0, locals := 0 } : Room) #[(.ref pa0), (.int 47), (.int 0), (.int 2)] [] h0 (fun v h S' => (v = some (.int (-1)) ∧ h = h0 ∧ S' = [])) := by
 refine Ow.Con.enter (Ls := #[.val (.ref pa0), .val (.int 47), .val (.int 0), .val (.int 2), .unset, .unset]) (plainFor_of_name pn5) O0 (hEW hw) (hSA hw) ?_
 intro p e s m below meth c B
 have z0 := Ow.old_le O0
 have lu0 : (u0 : Nat) < n0 := O0.1 ▸ GS.2.1.lt
 have lu1 : (u1 : Nat) < n0 := O0.1 ▸ GS.2.2.2.2.1.lt
 have lu2 : (u2 : Nat) < n0 := O0.1 ▸ GS.2.2.2.2.2.2.lt
 have lpa0 : (pa0 : Nat) < h0.size := hf0.lt
 have i0 := hk0
 have e0 := own_al8 i0
 unfold alP at i0
 have i1 := hk1
 have e1 := own_al8 i1
 unfold alP at i1
 refine Ow.iloadN (pc' := 1) B e36_0 ?_
 refine Ow.i2b (pc' := 2) (z := 47) B e36_1 ?_
 refine Ow.istore (pc' := 4) (Ls' := #[.val (.ref pa0), .val (.int 47), .val (.int 0), .val (.int 2), .val (.int 47), .unset]) B e36_2 ?_
 refine Ow.iloadN (pc' := 5) B e36_4 ?_
 refine Ow.istore (pc' := 7) (Ls' := #[.val (.ref pa0), .val (.int 47), .val (.int 0), .val (.int 2), .val (.int 47), .val (.int 0)]) B e36_5 ?_
 refine Ow.iload (pc' := 9) B e36_7 ?_
 refine Ow.iloadN (pc' := 10) B e36_9 ?_
 refine Ow.icmpF (pc' := 13) B e36_10 (by decide) ?_
 refine Ow.aloadN (pc' := 14) B e36_13 ?_
 refine Ow.iload (pc' := 16) B e36_14 ?_
 refine Ow.baload (pc' := 17) B e36_16 hf0 ⟨by decide, by decide⟩ rfl ?_
 refine Ow.iload (pc' := 19) B e36_17 ?_
 refine Ow.icmpT (pc' := 25) B e36_19 (feq ((by simp only [Int32.lt_iff_toInt_lt, ← Int32.toInt_inj, Int32.reduceToInt]; omega))).2 ?_
 refine Ow.iinc (pc' := 28) (y := 1) (Ls' := #[.val (.ref pa0), .val (.int 47), .val (.int 0), .val (.int 2), .val (.int 47), .val (.int 1)]) B e36_25 ?_
 refine Ow.goto (pc' := 7) B e36_28 ?_
 refine Ow.iload (pc' := 9) B e36_7 ?_
 refine Ow.iloadN (pc' := 10) B e36_9 ?_
 refine Ow.icmpF (pc' := 13) B e36_10 (by decide) ?_
 refine Ow.aloadN (pc' := 14) B e36_13 ?_
 refine Ow.iload (pc' := 16) B e36_14 ?_
 refine Ow.baload (pc' := 17) B e36_16 hf0 ⟨by decide, by decide⟩ rfl ?_
 refine Ow.iload (pc' := 19) B e36_17 ?_
 refine Ow.icmpT (pc' := 25) B e36_19 (feq ((by simp only [Int32.lt_iff_toInt_lt, ← Int32.toInt_inj, Int32.reduceToInt]; omega))).2 ?_
 refine Ow.iinc (pc' := 28) (y := 2) (Ls' := #[.val (.ref pa0), .val (.int 47), .val (.int 0), .val (.int 2), .val (.int 47), .val (.int 2)]) B e36_25 ?_
 refine Ow.goto (pc' := 7) B e36_28 ?_
 refine Ow.iload (pc' := 9) B e36_7 ?_
 refine Ow.iloadN (pc' := 10) B e36_9 ?_
 refine Ow.icmpT (pc' := 31) B e36_10 (by decide) ?_
 refine Ow.iconst (pc' := 32) (x := (-1 : Int32)) B e36_31 ?_
 exact Ow.retI (S' := []) (t := .int) B e36_32 (⟨rfl, rfl, rfl⟩)
set_option maxRecDepth 65536 in
set_option maxHeartbeats 40000000 in
theorem con_indexOf_72 (hw : Hw a0 Z) (G : Ow.Glo Z cz sf) {u0 u1 u2 : Nat} (GS : GlS Z u0 u1 u2) {pa0 : Nat} {px0 : Int32} {px1 : Int32} {pk0 : ClassId} {h0 : Heap} (O0 : Old Z n0 h0) (hf0 : Arv Z h0 pa0 pk0 .byte (2 : Int32) [(.int px0.toInt8.toInt32), (.int px1.toInt8.toInt32)] (.int 0)) (hk0 : alP px0) (hk1 : alP px1) :
    Ow.Con l Z EL1 n0 my28 jdk_43_method_22_code 4 (Option.some Jvm.ClassFile.FieldType.int) [] ({ frames := 1, cells := 0, slots := 0, locals := 17 } : Room) #[(.ref pa0), (.int 47), (.int 0), (.int 2)] [] h0 (fun v h S' => (v = some (.int (-1)) ∧ h = h0 ∧ S' = [])) := by
 refine Ow.Con.enter (Ls := #[.val (.ref pa0), .val (.int 47), .val (.int 0), .val (.int 2)]) (plainFor_of_name pn5) O0 (hEW hw) (hSA hw) ?_
 intro p e s m below meth c B
 have z0 := Ow.old_le O0
 have lu0 : (u0 : Nat) < n0 := O0.1 ▸ GS.2.1.lt
 have lu1 : (u1 : Nat) < n0 := O0.1 ▸ GS.2.2.2.2.1.lt
 have lu2 : (u2 : Nat) < n0 := O0.1 ▸ GS.2.2.2.2.2.2.lt
 have lpa0 : (pa0 : Nat) < h0.size := hf0.lt
 refine Ow.iloadN (pc' := 1) B e32_0 ?_
 refine Ow.Go.old (fun o1 => ?_)
 refine Ow.callStatic (pc' := 4) (W := 0) (k' := 0) (n' := 0) (argsL := [(.int 47)]) (rest := []) B e32_1 (w180 hw) (w181 hw) (w89 hw) (w182 hw) (con_canEncode_21 hw G GS o1) pd21 ?_
 intro vq2 h3 S4 q2 zh3
 obtain ⟨rfl, rfl, rfl⟩ := q2
 refine Ow.Go.nr (S' := []) (st' := [(.int 1)]) ?_
 refine Ow.ifT (pc' := 9) B e32_4 (by decide) ?_
 refine Ow.iloadN (pc' := 10) B e32_9 ?_
 refine Ow.iconst (pc' := 11) (x := 0) B e32_10 ?_
 refine Ow.Go.old (fun o5 => ?_)
 refine Ow.callStatic (pc' := 14) (W := 0) (k' := 0) (n' := 0) (argsL := [(.int 0), (.int 0)]) (rest := []) B e32_11 (w183 hw) (w184 hw) (w185 hw) (w186 hw) (con_max_22 hw G GS o5) pd22 ?_
 intro vq6 h7 S8 q6 zh7
 obtain ⟨rfl, rfl, rfl⟩ := q6
 refine Ow.Go.nr (S' := []) (st' := [(.int 0)]) ?_
 refine Ow.istoreN (pc' := 15) (Ls' := #[.val (.ref pa0), .val (.int 47), .val (.int 0), .val (.int 2)]) B e32_14 ?_
 refine Ow.iloadN (pc' := 16) B e32_15 ?_
 refine Ow.aloadN (pc' := 17) B e32_16 ?_
 refine Ow.arrlen (pc' := 18) B e32_17 hf0 ?_
 refine Ow.Go.old (fun o9 => ?_)
 refine Ow.callStatic (pc' := 21) (W := 0) (k' := 0) (n' := 0) (argsL := [(.int 2), (.int 2)]) (rest := []) B e32_18 (w187 hw) (w188 hw) (w185 hw) (w189 hw) (con_min_70 hw G GS o9) pd22 ?_
 intro vq10 h11 S12 q10 zh11
 obtain ⟨rfl, rfl, rfl⟩ := q10
 refine Ow.Go.nr (S' := []) (st' := [(.int 2)]) ?_
 refine Ow.istoreN (pc' := 22) (Ls' := #[.val (.ref pa0), .val (.int 47), .val (.int 0), .val (.int 2)]) B e32_21 ?_
 refine Ow.iloadN (pc' := 23) B e32_22 ?_
 refine Ow.iloadN (pc' := 24) B e32_23 ?_
 refine Ow.icmpT (pc' := 29) B e32_24 (by decide) ?_
 refine Ow.aloadN (pc' := 30) B e32_29 ?_
 refine Ow.iloadN (pc' := 31) B e32_30 ?_
 refine Ow.iloadN (pc' := 32) B e32_31 ?_
 refine Ow.iloadN (pc' := 33) B e32_32 ?_
 refine Ow.Go.old (fun o13 => ?_)
 refine Ow.callStatic (pc' := 36) (W := 0) (k' := 0) (n' := 0) (argsL := [(.ref pa0), (.int 47), (.int 0), (.int 2)]) (rest := []) B e32_33 (w190 hw) (w191 hw) (w89 hw) (w192 hw) (con_indexOfChar_71 hw G GS (pa0 := pa0) (px0 := px0) (px1 := px1) (pk0 := pk0) o13 hf0 (hk0) (hk1)) pd23 ?_
 intro vq14 h15 S16 q14 zh15
 obtain ⟨rfl, rfl, rfl⟩ := q14
 refine Ow.Go.nr (S' := []) (st' := [(.int (-1))]) ?_
 exact Ow.retI (S' := []) (t := .int) B e32_36 (⟨rfl, rfl, rfl⟩)
set_option maxRecDepth 65536 in
set_option maxHeartbeats 40000000 in
theorem con_indexOf_73 (hw : Hw a0 Z) (G : Ow.Glo Z cz sf) {u0 u1 u2 : Nat} (GS : GlS Z u0 u1 u2) {pa0 : Nat} {pa1 : Nat} {px0 : Int32} {px1 : Int32} {pk0 : ClassId} {h0 : Heap} (O0 : Old Z n0 h0) (hf0 : Exa Z h0 pa0 "java/lang/String") (hf1 : Fld Z h0 pa0 "java/lang/String" "coder" "B" (.int 0)) (hf2 : Fld Z h0 pa0 "java/lang/String" "value" "[B" (.ref pa1)) (hf3 : Arv Z h0 pa1 pk0 .byte (2 : Int32) [(.int px0.toInt8.toInt32), (.int px1.toInt8.toInt32)] (.int 0)) (hk0 : alP px0) (hk1 : alP px1) :
    Ow.Con l Z EL1 n0 my29 jdk_42_method_80_code 3 (Option.some Jvm.ClassFile.FieldType.int) [] ({ frames := 2, cells := 0, slots := 0, locals := 32 } : Room) #[(.ref pa0), (.int 47), (.int 0)] [pa0] h0 (fun v h S' => (v = some (.int (-1)) ∧ h = h0 ∧ S' = [])) := by
 refine Ow.Con.enter (Ls := #[.val (.ref pa0), .val (.int 47), .val (.int 0)]) (plainFor_of_name pn1) O0 (hEW hw) (hSA hw) ?_
 intro p e s m below meth c B
 have z0 := Ow.old_le O0
 have lu0 : (u0 : Nat) < n0 := O0.1 ▸ GS.2.1.lt
 have lu1 : (u1 : Nat) < n0 := O0.1 ▸ GS.2.2.2.2.1.lt
 have lu2 : (u2 : Nat) < n0 := O0.1 ▸ GS.2.2.2.2.2.2.lt
 have lpa0 : (pa0 : Nat) < h0.size := hf0.lt
 have lpa1 : (pa1 : Nat) < h0.size := hf3.lt
 refine Ow.aloadN (pc' := 1) B e31_0 ?_
 refine Ow.Go.old (fun o1 => ?_)
 refine Ow.callVirtual (pc' := 4) (W := 0) (k' := 0) (n' := 0) (argsL := []) (rest := []) (K := "java/lang/String") B e31_1 (w153 hw) (w154 hw) (w156 hw) (w156 hw) (w155 hw) (w6 hw) (w157 hw) hf0 (con_isLatin1_31 hw G GS (pa0 := pa0) o1 hf1) pd17 ?_
 intro vq2 h3 S4 q2 zh3
 obtain ⟨rfl, rfl, rfl⟩ := q2
 refine Ow.Go.nr (S' := [pa0]) (st' := [(.int 1)]) ?_
 refine Ow.ifF (pc' := 7) B e31_4 (by decide) ?_
 refine Ow.aloadN (pc' := 8) B e31_7 ?_
 refine Ow.getfield (pc' := 11) B e31_8 (w35 hw) Via.refl hf2 ?_
 refine Ow.iloadN (pc' := 12) B e31_11 ?_
 refine Ow.iloadN (pc' := 13) B e31_12 ?_
 refine Ow.aloadN (pc' := 14) B e31_13 ?_
 refine Ow.Go.old (fun o5 => ?_)
 refine Ow.callVirtual (pc' := 17) (W := 3) (k' := 0) (n' := 0) (argsL := []) (rest := [(.int 0), (.int 47), (.ref pa1)]) (K := "java/lang/String") B e31_14 (w104 hw) (w105 hw) (w107 hw) (w107 hw) (w106 hw) (w6 hw) (w108 hw) hf0 (con_length_59 hw G GS (pa0 := pa0) (pa1 := pa1) (px0 := px0) (px1 := px1) (pk0 := pk0) o5 hf0 hf1 hf2 hf3) pd9 ?_
 intro vq6 h7 S8 q6 zh7
 obtain ⟨rfl, rfl, rfl⟩ := q6
 refine Ow.Go.nr (S' := [pa0]) (st' := [(.int 2), (.int 0), (.int 47), (.ref pa1)]) ?_
 refine Ow.Go.old (fun o9 => ?_)
 refine Ow.callStatic (pc' := 20) (W := 0) (k' := 0) (n' := 0) (argsL := [(.ref pa1), (.int 47), (.int 0), (.int 2)]) (rest := []) B e31_17 (w177 hw) (w178 hw) (w89 hw) (w179 hw) (con_indexOf_72 hw G GS (pa0 := pa1) (px0 := px0) (px1 := px1) (pk0 := pk0) o9 hf3 (hk0) (hk1)) pd23 ?_
 intro vq10 h11 S12 q10 zh11
 obtain ⟨rfl, rfl, rfl⟩ := q10
 refine Ow.Go.nr (S' := [pa0]) (st' := [(.int (-1))]) ?_
 refine Ow.goto (pc' := 36) B e31_20 ?_
 exact Ow.retI (S' := []) (t := .int) B e31_36 (⟨rfl, rfl, rfl⟩)
set_option maxRecDepth 65536 in
set_option maxHeartbeats 40000000 in
theorem con_split_74 (hw : Hw a0 Z) (G : Ow.Glo Z cz sf) {u0 u1 u2 : Nat} (GS : GlS Z u0 u1 u2) {pa0 : Nat} {pa1 : Nat} {px0 : Int32} {px1 : Int32} {pk0 : ClassId} {h0 : Heap} (O0 : Old Z n0 h0) (hf0 : Exa Z h0 pa0 "java/lang/String") (hf1 : Fld Z h0 pa0 "java/lang/String" "coder" "B" (.int 0)) (hf2 : Fld Z h0 pa0 "java/lang/String" "value" "[B" (.ref pa1)) (hf3 : Arv Z h0 pa1 pk0 .byte (2 : Int32) [(.int px0.toInt8.toInt32), (.int px1.toInt8.toInt32)] (.int 0)) (hk0 : alP px0) (hk1 : alP px1) :
    Ow.Con l Z EL1 n0 my34 jdk_42_method_104_code 12 (Option.some (Jvm.ClassFile.FieldType.array (Jvm.ClassFile.FieldType.object "java/lang/String"))) [] ({ frames := 4, cells := 2, slots := 4, locals := 49 } : Room) #[(.ref pa0), (.int 47), (.int (-1)), (.int 0)] [pa0] h0 (fun v h S' => (∃ r0 : Nat, ∃ k0 : ClassId, v = some (.ref r0) ∧ Keep h0 h [] ∧ h0.size ≤ r0 ∧ Arv Z h r0 k0 (.object "java/lang/String") (1 : Int32) [(.ref pa0)] .null ∧ S' = [])) := by
 refine Ow.Con.enter (Ls := #[.val (.ref pa0), .val (.int 47), .val (.int (-1)), .val (.int 0), .unset, .unset, .unset, .unset, .unset, .unset, .unset, .unset]) (plainFor_of_name pn1) O0 (hEW hw) (hSA hw) ?_
 intro p e s m below meth c B
 have z0 := Ow.old_le O0
 have lu0 : (u0 : Nat) < n0 := O0.1 ▸ GS.2.1.lt
 have lu1 : (u1 : Nat) < n0 := O0.1 ▸ GS.2.2.2.2.1.lt
 have lu2 : (u2 : Nat) < n0 := O0.1 ▸ GS.2.2.2.2.2.2.lt
 have lpa0 : (pa0 : Nat) < h0.size := hf0.lt
 have lpa1 : (pa1 : Nat) < h0.size := hf3.lt
 refine Ow.iconst (pc' := 1) (x := 0) B e37_0 ?_
 refine Ow.istore (pc' := 3) (Ls' := #[.val (.ref pa0), .val (.int 47), .val (.int (-1)), .val (.int 0), .val (.int 0), .unset, .unset, .unset, .unset, .unset, .unset, .unset]) B e37_1 ?_
 refine Ow.iconst (pc' := 4) (x := 0) B e37_3 ?_
 refine Ow.istore (pc' := 6) (Ls' := #[.val (.ref pa0), .val (.int 47), .val (.int (-1)), .val (.int 0), .val (.int 0), .val (.int 0), .unset, .unset, .unset, .unset, .unset, .unset]) B e37_4 ?_
 refine Ow.iloadN (pc' := 7) B e37_6 ?_
 refine Ow.ifT (pc' := 14) B e37_7 (by decide) ?_
 refine Ow.iconst (pc' := 15) (x := 0) B e37_14 ?_
 refine Ow.istore (pc' := 17) (Ls' := #[.val (.ref pa0), .val (.int 47), .val (.int (-1)), .val (.int 0), .val (.int 0), .val (.int 0), .unset, .val (.int 0), .unset, .unset, .unset, .unset]) B e37_15 ?_
 refine Ow.newObj (pc' := 20) (k' := 1) (n' := 3) B e37_17 (w199 hw) (w200 hw) (w201 hw) ?_
 intro h2 a1 ga1 ba1 Kh2 Aa1 Da1
 have zh2 := Kh2.1
 have la1 : (a1 : Nat) < h2.size := Aa1.lt
 have f3 : Fld Z h2 a1 "java/util/AbstractList" "modCount" "I" (.int 0) := Da1 (Or.inl (w220 hw)) (ty := .int) (by decide)
 have f4 : Fld Z h2 a1 "java/util/ArrayList" "elementData" "[Ljava/lang/Object;" .null := Da1 (Or.inl (w223 hw)) (ty := (.array (.object "java/lang/Object"))) (by decide)
 refine Ow.dup (pc' := 21) B e37_20 ?_
 refine Ow.Go.old (fun o5 => ?_)
 refine Ow.callInit (pc' := 24) (W := 1) (k' := 1) (n' := 3) (argsL := []) (rest := [(.ref a1)]) B e37_21 (w202 hw) (w203 hw) (w201 hw) (w205 hw) (con_init_30 hw G GS (pa0 := a1) o5 Aa1 f3 f4 (by omega)) pd25 ?_
 intro vq6 h7 S8 q6 zh7
 obtain ⟨rfl, Kh7, f9, f10, f11, rfl⟩ := q6
 refine Ow.Go.nr (S' := [a1, pa0]) (st' := [(.ref a1)]) ?_
 refine Ow.astore (pc' := 26) (Ls' := #[.val (.ref pa0), .val (.int 47), .val (.int (-1)), .val (.int 0), .val (.int 0), .val (.int 0), .unset, .val (.int 0), .val (.ref a1), .unset, .unset, .unset]) B e37_24 ?_
 refine Ow.iloadN (pc' := 27) B e37_26 ?_
 refine Ow.ifT (pc' := 37) B e37_27 (by decide) ?_
 refine Ow.aconstNull (pc' := 38) B e37_37 ?_
 refine Ow.astore (pc' := 40) (Ls' := #[.val (.ref pa0), .val (.int 47), .val (.int (-1)), .val (.int 0), .val (.int 0), .val (.int 0), .unset, .val (.int 0), .val (.ref a1), .val .null, .unset, .unset]) B e37_38 ?_
 refine Ow.aloadN (pc' := 41) B e37_40 ?_
 refine Ow.iloadN (pc' := 42) B e37_41 ?_
 refine Ow.iload (pc' := 44) B e37_42 ?_
 refine Ow.Go.old (fun o12 => ?_)
 have f13 := hf0.keep Kh2
 have f14 := f13.keep Kh7
 have f15 := hf1.keep Kh2 Ow.nin0
 have f16 := f15.keep Kh7 (Ow.ninS (by omega) Ow.nin0)
 have f17 := hf2.keep Kh2 Ow.nin0
 have f18 := f17.keep Kh7 (Ow.ninS (by omega) Ow.nin0)
 have f19 := hf3.keep Kh2 Ow.nin0
 have f20 := f19.keep Kh7 (Ow.ninS (by omega) Ow.nin0)
 refine Ow.callVirtual (pc' := 47) (W := 0) (k' := 1) (n' := 3) (argsL := [(.int 47), (.int 0)]) (rest := []) (K := "java/lang/String") B e37_44 (w172 hw) (w173 hw) (w175 hw) (w175 hw) (w174 hw) (w6 hw) (w176 hw) f14 (con_indexOf_73 hw G GS (pa0 := pa0) (pa1 := pa1) (px0 := px0) (px1 := px1) (pk0 := pk0) o12 f14 f16 f18 f20 (hk0) (hk1)) pd22 ?_
 intro vq21 h22 S23 q21 zh22
 obtain ⟨rfl, rfl, rfl⟩ := q21
 refine Ow.Go.nr (S' := [a1, pa0]) (st' := [(.int (-1))]) ?_
 refine Ow.dup (pc' := 48) B e37_47 ?_
 refine Ow.istore (pc' := 50) (Ls' := #[.val (.ref pa0), .val (.int 47), .val (.int (-1)), .val (.int 0), .val (.int 0), .val (.int 0), .val (.int (-1)), .val (.int 0), .val (.ref a1), .val .null, .unset, .unset]) B e37_48 ?_
 refine Ow.iconst (pc' := 51) (x := (-1 : Int32)) B e37_50 ?_
 refine Ow.icmpT (pc' := 135) B e37_51 (by decide) ?_
 refine Ow.iload (pc' := 137) B e37_135 ?_
 refine Ow.ifF (pc' := 140) B e37_137 (by decide) ?_
 refine Ow.iconst (pc' := 141) (x := 1) B e37_140 ?_
 refine Ow.newArrR (pc' := 144) (k' := 2) (n' := 4) (cap := 1) B e37_141 (w86 hw) (w224 hw) (by decide) (by decide) ?_
 intro h25 a24 ka24 ga24 ba24 Kh25 V0a24 Oa24
 have zh25 := Kh25.1
 have la24 : (a24 : Nat) < h25.size := V0a24.lt
 have Va24 : Arv Z h25 a24 ka24 (.object "java/lang/String") (1 : Int32) [.null] .null := V0a24.pad (pad_rep [] .null 1)
 refine Ow.dup (pc' := 145) B e37_144 ?_
 refine Ow.iconst (pc' := 146) (x := 0) B e37_145 ?_
 refine Ow.aloadN (pc' := 147) B e37_146 ?_
 have f27 := f14.keep Kh25
 refine Ow.aastore (pc' := 148) (i := 0) B e37_147 Va24 Oa24 (Ins.self f27) ⟨by decide, by decide⟩ ?_
 intro h26 Kh26 V28
 have zh26 := Kh26.1
 have V28 : Arv Z h26 a24 ka24 (.object "java/lang/String") (1 : Int32) [(.ref pa0)] .null := V28
 exact Ow.retA (S' := []) (t := (.array (.object "java/lang/String"))) B e37_148 (⟨a24, ka24, rfl, (((((Keep.refl _ []).trans Kh2 (fun _ q => nomatch q)).trans Kh7 (allS (Or.inr (by omega)) all0)).trans Kh25 (fun _ q => nomatch q)).trans Kh26 (allS (Or.inr (by omega)) all0)), (by omega), V28, rfl⟩)
set_option maxRecDepth 65536 in
set_option maxHeartbeats 40000000 in
theorem con_split_75 (hw : Hw a0 Z) (G : Ow.Glo Z cz sf) {u0 u1 u2 : Nat} (GS : GlS Z u0 u1 u2) {pa0 : Nat} {pa1 : Nat} {pa2 : Nat} {pa3 : Nat} {px0 : Int32} {px1 : Int32} {pk0 : ClassId} {pk1 : ClassId} {h0 : Heap} (O0 : Old Z n0 h0) (hf0 : Exa Z h0 pa0 "java/lang/String") (hf1 : Fld Z h0 pa0 "java/lang/String" "coder" "B" (.int 0)) (hf2 : Fld Z h0 pa0 "java/lang/String" "value" "[B" (.ref pa2)) (hf3 : Exa Z h0 pa1 "java/lang/String") (hf4 : Fld Z h0 pa1 "java/lang/String" "coder" "B" (.int 0)) (hf5 : Fld Z h0 pa1 "java/lang/String" "value" "[B" (.ref pa3)) (hf6 : Arv Z h0 pa2 pk0 .byte (2 : Int32) [(.int px0.toInt8.toInt32), (.int px1.toInt8.toInt32)] (.int 0)) (hf7 : Arv Z h0 pa3 pk1 .byte (1 : Int32) [(.int 47)] (.int 0)) (hk0 : alP px0) (hk1 : alP px1) :
    Ow.Con l Z EL1 n0 my35 jdk_42_method_103_code 6 (Option.some (Jvm.ClassFile.FieldType.array (Jvm.ClassFile.FieldType.object "java/lang/String"))) [] ({ frames := 5, cells := 4, slots := 56, locals := 72 } : Room) #[(.ref pa0), (.ref pa1), (.int (-1)), (.int 0)] [pa0] h0 (fun v h S' => (∃ r0 : Nat, ∃ k0 : ClassId, v = some (.ref r0) ∧ Keep h0 h [] ∧ h0.size ≤ r0 ∧ Arv Z h r0 k0 (.object "java/lang/String") (1 : Int32) [(.ref pa0)] .null ∧ S' = [])) := by
 refine Ow.Con.enter (Ls := #[.val (.ref pa0), .val (.ref pa1), .val (.int (-1)), .val (.int 0), .unset, .unset]) (plainFor_of_name pn1) O0 (hEW hw) (hSA hw) ?_
 intro p e s m below meth c B
 have z0 := Ow.old_le O0
 have lu0 : (u0 : Nat) < n0 := O0.1 ▸ GS.2.1.lt
 have lu1 : (u1 : Nat) < n0 := O0.1 ▸ GS.2.2.2.2.1.lt
 have lu2 : (u2 : Nat) < n0 := O0.1 ▸ GS.2.2.2.2.2.2.lt
 have lpa0 : (pa0 : Nat) < h0.size := hf0.lt
 have lpa1 : (pa1 : Nat) < h0.size := hf3.lt
 have lpa2 : (pa2 : Nat) < h0.size := hf6.lt
 have lpa3 : (pa3 : Nat) < h0.size := hf7.lt
 refine Ow.iconst (pc' := 1) (x := 0) B e24_0 ?_
 refine Ow.istore (pc' := 3) (Ls' := #[.val (.ref pa0), .val (.ref pa1), .val (.int (-1)), .val (.int 0), .val (.int 0), .unset]) B e24_1 ?_
 refine Ow.aloadN (pc' := 4) B e24_3 ?_
 refine Ow.Go.old (fun o1 => ?_)
 refine Ow.callVirtual (pc' := 7) (W := 0) (k' := 0) (n' := 0) (argsL := []) (rest := []) (K := "java/lang/String") B e24_4 (w104 hw) (w105 hw) (w107 hw) (w107 hw) (w106 hw) (w6 hw) (w108 hw) hf3 (con_length_6 hw G GS (pa0 := pa1) (pa1 := pa3) (pk0 := pk1) o1 hf3 hf4 hf5 hf7) pd9 ?_
 intro vq2 h3 S4 q2 zh3
 obtain ⟨rfl, rfl, rfl⟩ := q2
 refine Ow.Go.nr (S' := [pa0]) (st' := [(.int 1)]) ?_
 refine Ow.iconst (pc' := 8) (x := 1) B e24_7 ?_
 refine Ow.icmpF (pc' := 11) B e24_8 (by decide) ?_
 refine Ow.ldcTextW (pc' := 14) (k' := 2) (n' := 52) (nn := 48) (vs := [(.int 46), (.int 36), (.int 124), (.int 40), (.int 41), (.int 91), (.int 123), (.int 94), (.int 63), (.int 42), (.int 43), (.int 92)]) (z := 12) B e24_11 (w147 hw) (by decide) ⟨by decide, by decide⟩ (by decide) (by decide) ?_
 intro h6 a5 t7 kt7 Kh6 Ea5 Ca5 Va5 At7 Na5
 have zh6 := Kh6.1
 have la5 : (a5 : Nat) < h6.size := Ea5.lt
 have lt7 : (t7 : Nat) < h6.size := At7.lt
 have n8 : (pa0 : Nat) ≠ a5 ∧ (pa0 : Nat) ≠ t7 := Na5 pa0 (by simp)
 refine Ow.aloadN (pc' := 15) B e24_14 ?_
 refine Ow.iconst (pc' := 16) (x := 0) B e24_15 ?_
 refine Ow.Go.old (fun o9 => ?_)
 have f10 := hf3.keep Kh6
 have f11 := hf4.keep Kh6 Ow.nin0
 have f12 := hf5.keep Kh6 Ow.nin0
 have f13 := hf7.keep Kh6 Ow.nin0
 refine Ow.callVirtual (pc' := 19) (W := 1) (k' := 2) (n' := 52) (argsL := [(.int 0)]) (rest := [(.ref a5)]) (K := "java/lang/String") B e24_16 (w148 hw) (w149 hw) (w151 hw) (w151 hw) (w150 hw) (w6 hw) (w152 hw) f10 (con_charAt_19 hw G GS (pa0 := pa1) (pa1 := pa3) (pk0 := pk1) o9 f10 f11 f12 f13) pd4 ?_
 intro vq14 h15 S16 q14 zh15
 obtain ⟨rfl, rfl, rfl⟩ := q14
 refine Ow.Go.nr (S' := [pa0]) (st' := [(.int 47), (.ref a5)]) ?_
 refine Ow.dup (pc' := 20) B e24_19 ?_
 refine Ow.istore (pc' := 22) (Ls' := #[.val (.ref pa0), .val (.ref pa1), .val (.int (-1)), .val (.int 0), .val (.int 47), .unset]) B e24_20 ?_
 refine Ow.Go.old (fun o17 => ?_)
 refine Ow.callVirtual (pc' := 25) (W := 0) (k' := 2) (n' := 52) (argsL := [(.int 47)]) (rest := []) (K := "java/lang/String") B e24_22 (w167 hw) (w168 hw) (w170 hw) (w170 hw) (w169 hw) (w6 hw) (w171 hw) Ea5 (con_indexOf_27 hw G GS (pa0 := a5) (pa1 := t7) (pk0 := kt7) o17 Ea5 Ca5 Va5 At7) pd24 ?_
 intro vq18 h19 S20 q18 zh19
 obtain ⟨rfl, rfl, rfl⟩ := q18
 refine Ow.Go.nr (S' := [pa0]) (st' := [(.int (-1))]) ?_
 refine Ow.iconst (pc' := 26) (x := (-1 : Int32)) B e24_25 ?_
 refine Ow.icmpT (pc' := 95) B e24_26 (by decide) ?_
 refine Ow.iload (pc' := 97) B e24_95 ?_
 refine Ow.ldcIntW (pc' := 100) B e24_97 (w193 hw) ?_
 refine Ow.icmpT (pc' := 111) B e24_100 (by decide) ?_
 refine Ow.aloadN (pc' := 112) B e24_111 ?_
 refine Ow.iload (pc' := 114) B e24_112 ?_
 refine Ow.iloadN (pc' := 115) B e24_114 ?_
 refine Ow.iloadN (pc' := 116) B e24_115 ?_
 refine Ow.Go.old (fun o21 => ?_)
 have f22 := hf0.keep Kh6
 have f23 := hf1.keep Kh6 Ow.nin0
 have f24 := hf2.keep Kh6 Ow.nin0
 have f25 := hf6.keep Kh6 Ow.nin0
 refine Ow.callPrivate (pc' := 119) (W := 0) (k' := 4) (n' := 56) (argsL := [(.int 47), (.int (-1)), (.int 0)]) (rest := []) (K := "java/lang/String") B e24_116 (w194 hw) (w195 hw) (w196 hw) (w5 hw) (w6 hw) (w198 hw) f22 (con_split_74 hw G GS (pa0 := pa0) (pa1 := pa2) (px0 := px0) (px1 := px1) (pk0 := pk0) o21 f22 f23 f24 f25 (hk0) (hk1)) pd26 ?_
 intro vq26 h27 S28 q26 zh27
 obtain ⟨r29, k30, rfl, Kh27, br29, f31, rfl⟩ := q26
 have lr29 : (r29 : Nat) < h27.size := f31.lt
 refine Ow.Go.nr (S' := [pa0]) (st' := [(.ref r29)]) ?_
 exact Ow.retA (S' := []) (t := (.array (.object "java/lang/String"))) B e24_119 (⟨r29, k30, rfl, (((Keep.refl _ []).trans Kh6 (fun _ q => nomatch q)).trans Kh27 (fun _ q => nomatch q)), (by omega), f31, rfl⟩)
set_option maxRecDepth 65536 in
set_option maxHeartbeats 40000000 in
theorem con_split_76 (hw : Hw a0 Z) (G : Ow.Glo Z cz sf) {u0 u1 u2 : Nat} (GS : GlS Z u0 u1 u2) {pa0 : Nat} {pa1 : Nat} {pa2 : Nat} {pa3 : Nat} {px0 : Int32} {px1 : Int32} {pk0 : ClassId} {pk1 : ClassId} {h0 : Heap} (O0 : Old Z n0 h0) (hf0 : Exa Z h0 pa0 "java/lang/String") (hf1 : Fld Z h0 pa0 "java/lang/String" "coder" "B" (.int 0)) (hf2 : Fld Z h0 pa0 "java/lang/String" "value" "[B" (.ref pa2)) (hf3 : Exa Z h0 pa1 "java/lang/String") (hf4 : Fld Z h0 pa1 "java/lang/String" "coder" "B" (.int 0)) (hf5 : Fld Z h0 pa1 "java/lang/String" "value" "[B" (.ref pa3)) (hf6 : Arv Z h0 pa2 pk0 .byte (2 : Int32) [(.int px0.toInt8.toInt32), (.int px1.toInt8.toInt32)] (.int 0)) (hf7 : Arv Z h0 pa3 pk1 .byte (1 : Int32) [(.int 47)] (.int 0)) (hk0 : alP px0) (hk1 : alP px1) :
    Ow.Con l Z EL1 n0 my36 jdk_42_method_101_code 3 (Option.some (Jvm.ClassFile.FieldType.array (Jvm.ClassFile.FieldType.object "java/lang/String"))) [] ({ frames := 6, cells := 4, slots := 56, locals := 89 } : Room) #[(.ref pa0), (.ref pa1), (.int (-1))] [pa0] h0 (fun v h S' => (∃ r0 : Nat, ∃ k0 : ClassId, v = some (.ref r0) ∧ Keep h0 h [] ∧ h0.size ≤ r0 ∧ Arv Z h r0 k0 (.object "java/lang/String") (1 : Int32) [(.ref pa0)] .null ∧ S' = [])) := by
 refine Ow.Con.enter (Ls := #[.val (.ref pa0), .val (.ref pa1), .val (.int (-1))]) (plainFor_of_name pn1) O0 (hEW hw) (hSA hw) ?_
 intro p e s m below meth c B
 have z0 := Ow.old_le O0
 have lu0 : (u0 : Nat) < n0 := O0.1 ▸ GS.2.1.lt
 have lu1 : (u1 : Nat) < n0 := O0.1 ▸ GS.2.2.2.2.1.lt
 have lu2 : (u2 : Nat) < n0 := O0.1 ▸ GS.2.2.2.2.2.2.lt
 have lpa0 : (pa0 : Nat) < h0.size := hf0.lt
 have lpa1 : (pa1 : Nat) < h0.size := hf3.lt
 have lpa2 : (pa2 : Nat) < h0.size := hf6.lt
 have lpa3 : (pa3 : Nat) < h0.size := hf7.lt
 refine Ow.aloadN (pc' := 1) B e23_0 ?_
 refine Ow.aloadN (pc' := 2) B e23_1 ?_
 refine Ow.iloadN (pc' := 3) B e23_2 ?_
 refine Ow.iconst (pc' := 4) (x := 0) B e23_3 ?_
 refine Ow.Go.old (fun o1 => ?_)
 refine Ow.callPrivate (pc' := 7) (W := 0) (k' := 4) (n' := 56) (argsL := [(.ref pa1), (.int (-1)), (.int 0)]) (rest := []) (K := "java/lang/String") B e23_4 (w142 hw) (w143 hw) (w144 hw) (w5 hw) (w6 hw) (w146 hw) hf0 (con_split_75 hw G GS (pa0 := pa0) (pa1 := pa1) (pa2 := pa2) (pa3 := pa3) (px0 := px0) (px1 := px1) (pk0 := pk0) (pk1 := pk1) o1 hf0 hf1 hf2 hf3 hf4 hf5 hf6 hf7 (hk0) (hk1)) pd27 ?_
 intro vq2 h3 S4 q2 zh3
 obtain ⟨r5, k6, rfl, Kh3, br5, f7, rfl⟩ := q2
 have lr5 : (r5 : Nat) < h3.size := f7.lt
 refine Ow.Go.nr (S' := [pa0]) (st' := [(.ref r5)]) ?_
 exact Ow.retA (S' := []) (t := (.array (.object "java/lang/String"))) B e23_7 (⟨r5, k6, rfl, ((Keep.refl _ []).trans Kh3 (fun _ q => nomatch q)), (by omega), f7, rfl⟩)
set_option maxRecDepth 65536 in
set_option maxHeartbeats 40000000 in
theorem con_isEmpty_77 (hw : Hw a0 Z) (G : Ow.Glo Z cz sf) {u0 u1 u2 : Nat} (GS : GlS Z u0 u1 u2) {pa0 : Nat} {pa1 : Nat} {px0 : Int32} {px1 : Int32} {pk0 : ClassId} {h0 : Heap} (O0 : Old Z n0 h0) (hf0 : Fld Z h0 pa0 "java/lang/String" "value" "[B" (.ref pa1)) (hf1 : Arv Z h0 pa1 pk0 .byte (2 : Int32) [(.int px0.toInt8.toInt32), (.int px1.toInt8.toInt32)] (.int 0)) :
    Ow.Con l Z EL1 n0 my37 jdk_42_method_55_code 1 (Option.some Jvm.ClassFile.FieldType.boolean) [] ({ frames := 0, cells := 0, slots := 0, locals := 0 } : Room) #[(.ref pa0)] [pa0] h0 (fun v h S' => (v = some (.int 0) ∧ h = h0 ∧ S' = [])) := by
 refine Ow.Con.enter (Ls := #[.val (.ref pa0)]) (plainFor_of_name pn1) O0 (hEW hw) (hSA hw) ?_
 intro p e s m below meth c B
 have z0 := Ow.old_le O0
 have lu0 : (u0 : Nat) < n0 := O0.1 ▸ GS.2.1.lt
 have lu1 : (u1 : Nat) < n0 := O0.1 ▸ GS.2.2.2.2.1.lt
 have lu2 : (u2 : Nat) < n0 := O0.1 ▸ GS.2.2.2.2.2.2.lt
 have lpa0 : (pa0 : Nat) < h0.size := hf0.lt
 have lpa1 : (pa1 : Nat) < h0.size := hf1.lt
 refine Ow.aloadN (pc' := 1) B e43_0 ?_
 refine Ow.getfield (pc' := 4) B e43_1 (w35 hw) Via.refl hf0 ?_
 refine Ow.arrlen (pc' := 5) B e43_4 hf1 ?_
 refine Ow.ifT (pc' := 12) B e43_5 (by decide) ?_
 refine Ow.iconst (pc' := 13) (x := 0) B e43_12 ?_
 exact Ow.retI (S' := []) (t := .boolean) B e43_13 (⟨rfl, rfl, rfl⟩)
set_option maxRecDepth 65536 in
set_option maxHeartbeats 40000000 in
theorem con_charAt_78 (hw : Hw a0 Z) (G : Ow.Glo Z cz sf) {u0 u1 u2 : Nat} (GS : GlS Z u0 u1 u2) {pa0 : Nat} {px0 : Int32} {px1 : Int32} {pk0 : ClassId} {h0 : Heap} (O0 : Old Z n0 h0) (hf0 : Arv Z h0 pa0 pk0 .byte (2 : Int32) [(.int px0.toInt8.toInt32), (.int px1.toInt8.toInt32)] (.int 0)) (hk0 : ¬ (px0 < (0 : Int32))) (hk1 : ¬ ((255 : Int32) < px0)) :
    Ow.Con l Z EL1 n0 my22 jdk_43_method_2_code 2 (Option.some Jvm.ClassFile.FieldType.char) [] ({ frames := 2, cells := 0, slots := 0, locals := 27 } : Room) #[(.ref pa0), (.int 0)] [] h0 (fun v h S' => (v = some (.int px0) ∧ h = h0 ∧ S' = [])) := by
 refine Ow.Con.enter (Ls := #[.val (.ref pa0), .val (.int 0)]) (plainFor_of_name pn5) O0 (hEW hw) (hSA hw) ?_
 intro p e s m below meth c B
 have z0 := Ow.old_le O0
 have lu0 : (u0 : Nat) < n0 := O0.1 ▸ GS.2.1.lt
 have lu1 : (u1 : Nat) < n0 := O0.1 ▸ GS.2.2.2.2.1.lt
 have lu2 : (u2 : Nat) < n0 := O0.1 ▸ GS.2.2.2.2.2.2.lt
 have lpa0 : (pa0 : Nat) < h0.size := hf0.lt
 refine Ow.iloadN (pc' := 1) B e27_0 ?_
 refine Ow.aloadN (pc' := 2) B e27_1 ?_
 refine Ow.arrlen (pc' := 3) B e27_2 hf0 ?_
 refine Ow.Go.old (fun o1 => ?_)
 refine Ow.callStatic (pc' := 6) (W := 0) (k' := 0) (n' := 0) (argsL := [(.int 0), (.int 2)]) (rest := []) B e27_3 (w161 hw) (w162 hw) (w6 hw) (w163 hw) (con_checkIndex_17 hw G GS (px0 := (0 : Int32)) (px1 := (2 : Int32)) o1 (by decide) (by decide)) pd19 ?_
 intro vq2 h3 S4 q2 zh3
 obtain ⟨rfl, rfl, rfl⟩ := q2
 refine Ow.Go.nr (S' := []) (st' := []) ?_
 refine Ow.aloadN (pc' := 7) B e27_6 ?_
 refine Ow.iloadN (pc' := 8) B e27_7 ?_
 refine Ow.baload (pc' := 9) B e27_8 hf0 ⟨by decide, by decide⟩ rfl ?_
 refine Ow.sipush (pc' := 12) (x := 255) B e27_9 ?_
 refine Ow.iand (pc' := 13) (z := px0) (hz := (Ow.b255 (hk0) (hk1))) B e27_12 ?_
 refine Ow.i2c (pc' := 14) (z := px0) (hz := (Ow.c_id (hk0) (hk1))) B e27_13 ?_
 exact Ow.retI (S' := []) (t := .char) (hnn := (Ow.cnarrow (Ow.nar_id (hk0) (hk1)))) B e27_14 (⟨rfl, rfl, rfl⟩)
set_option maxRecDepth 65536 in
set_option maxHeartbeats 40000000 in
theorem con_charAt_79 (hw : Hw a0 Z) (G : Ow.Glo Z cz sf) {u0 u1 u2 : Nat} (GS : GlS Z u0 u1 u2) {pa0 : Nat} {pa1 : Nat} {px0 : Int32} {px1 : Int32} {pk0 : ClassId} {h0 : Heap} (O0 : Old Z n0 h0) (hf0 : Exa Z h0 pa0 "java/lang/String") (hf1 : Fld Z h0 pa0 "java/lang/String" "coder" "B" (.int 0)) (hf2 : Fld Z h0 pa0 "java/lang/String" "value" "[B" (.ref pa1)) (hf3 : Arv Z h0 pa1 pk0 .byte (2 : Int32) [(.int px0.toInt8.toInt32), (.int px1.toInt8.toInt32)] (.int 0)) (hk0 : ¬ (px0 < (0 : Int32))) (hk1 : ¬ ((255 : Int32) < px0)) :
    Ow.Con l Z EL1 n0 my23 jdk_42_method_56_code 2 (Option.some Jvm.ClassFile.FieldType.char) [] ({ frames := 3, cells := 0, slots := 0, locals := 40 } : Room) #[(.ref pa0), (.int 0)] [pa0] h0 (fun v h S' => (v = some (.int px0) ∧ h = h0 ∧ S' = [])) := by
 refine Ow.Con.enter (Ls := #[.val (.ref pa0), .val (.int 0)]) (plainFor_of_name pn1) O0 (hEW hw) (hSA hw) ?_
 intro p e s m below meth c B
 have z0 := Ow.old_le O0
 have lu0 : (u0 : Nat) < n0 := O0.1 ▸ GS.2.1.lt
 have lu1 : (u1 : Nat) < n0 := O0.1 ▸ GS.2.2.2.2.1.lt
 have lu2 : (u2 : Nat) < n0 := O0.1 ▸ GS.2.2.2.2.2.2.lt
 have lpa0 : (pa0 : Nat) < h0.size := hf0.lt
 have lpa1 : (pa1 : Nat) < h0.size := hf3.lt
 refine Ow.aloadN (pc' := 1) B e25_0 ?_
 refine Ow.Go.old (fun o1 => ?_)
 refine Ow.callVirtual (pc' := 4) (W := 0) (k' := 0) (n' := 0) (argsL := []) (rest := []) (K := "java/lang/String") B e25_1 (w153 hw) (w154 hw) (w156 hw) (w156 hw) (w155 hw) (w6 hw) (w157 hw) hf0 (con_isLatin1_31 hw G GS (pa0 := pa0) o1 hf1) pd17 ?_
 intro vq2 h3 S4 q2 zh3
 obtain ⟨rfl, rfl, rfl⟩ := q2
 refine Ow.Go.nr (S' := [pa0]) (st' := [(.int 1)]) ?_
 refine Ow.ifF (pc' := 7) B e25_4 (by decide) ?_
 refine Ow.aloadN (pc' := 8) B e25_7 ?_
 refine Ow.getfield (pc' := 11) B e25_8 (w35 hw) Via.refl hf2 ?_
 refine Ow.iloadN (pc' := 12) B e25_11 ?_
 refine Ow.Go.old (fun o5 => ?_)
 refine Ow.callStatic (pc' := 15) (W := 0) (k' := 0) (n' := 0) (argsL := [(.ref pa1), (.int 0)]) (rest := []) B e25_12 (w158 hw) (w159 hw) (w89 hw) (w160 hw) (con_charAt_78 hw G GS (pa0 := pa1) (px0 := px0) (px1 := px1) (pk0 := pk0) o5 hf3 (hk0) (hk1)) pd20 ?_
 intro vq6 h7 S8 q6 zh7
 obtain ⟨rfl, rfl, rfl⟩ := q6
 refine Ow.Go.nr (S' := [pa0]) (st' := [(.int px0)]) ?_
 exact Ow.retI (S' := []) (t := .char) (hnn := (Ow.cnarrow (Ow.nar_id (hk0) (hk1)))) B e25_15 (⟨rfl, rfl, rfl⟩)
set_option maxRecDepth 65536 in
set_option maxHeartbeats 40000000 in
theorem con_charAt_80 (hw : Hw a0 Z) (G : Ow.Glo Z cz sf) {u0 u1 u2 : Nat} (GS : GlS Z u0 u1 u2) {pa0 : Nat} {px0 : Int32} {px1 : Int32} {pk0 : ClassId} {h0 : Heap} (O0 : Old Z n0 h0) (hf0 : Arv Z h0 pa0 pk0 .byte (2 : Int32) [(.int px0.toInt8.toInt32), (.int px1.toInt8.toInt32)] (.int 0)) (hk0 : ¬ (px1 < (0 : Int32))) (hk1 : ¬ ((255 : Int32) < px1)) :
    Ow.Con l Z EL1 n0 my22 jdk_43_method_2_code 2 (Option.some Jvm.ClassFile.FieldType.char) [] ({ frames := 2, cells := 0, slots := 0, locals := 27 } : Room) #[(.ref pa0), (.int 1)] [] h0 (fun v h S' => (v = some (.int px1) ∧ h = h0 ∧ S' = [])) := by
 refine Ow.Con.enter (Ls := #[.val (.ref pa0), .val (.int 1)]) (plainFor_of_name pn5) O0 (hEW hw) (hSA hw) ?_
 intro p e s m below meth c B
 have z0 := Ow.old_le O0
 have lu0 : (u0 : Nat) < n0 := O0.1 ▸ GS.2.1.lt
 have lu1 : (u1 : Nat) < n0 := O0.1 ▸ GS.2.2.2.2.1.lt
 have lu2 : (u2 : Nat) < n0 := O0.1 ▸ GS.2.2.2.2.2.2.lt
 have lpa0 : (pa0 : Nat) < h0.size := hf0.lt
 refine Ow.iloadN (pc' := 1) B e27_0 ?_
 refine Ow.aloadN (pc' := 2) B e27_1 ?_
 refine Ow.arrlen (pc' := 3) B e27_2 hf0 ?_
 refine Ow.Go.old (fun o1 => ?_)
 refine Ow.callStatic (pc' := 6) (W := 0) (k' := 0) (n' := 0) (argsL := [(.int 1), (.int 2)]) (rest := []) B e27_3 (w161 hw) (w162 hw) (w6 hw) (w163 hw) (con_checkIndex_17 hw G GS (px0 := (1 : Int32)) (px1 := (2 : Int32)) o1 (by decide) (by decide)) pd19 ?_
 intro vq2 h3 S4 q2 zh3
 obtain ⟨rfl, rfl, rfl⟩ := q2
 refine Ow.Go.nr (S' := []) (st' := []) ?_
 refine Ow.aloadN (pc' := 7) B e27_6 ?_
 refine Ow.iloadN (pc' := 8) B e27_7 ?_
 refine Ow.baload (pc' := 9) B e27_8 hf0 ⟨by decide, by decide⟩ rfl ?_
 refine Ow.sipush (pc' := 12) (x := 255) B e27_9 ?_
 refine Ow.iand (pc' := 13) (z := px1) (hz := (Ow.b255 (hk0) (hk1))) B e27_12 ?_
 refine Ow.i2c (pc' := 14) (z := px1) (hz := (Ow.c_id (hk0) (hk1))) B e27_13 ?_
 exact Ow.retI (S' := []) (t := .char) (hnn := (Ow.cnarrow (Ow.nar_id (hk0) (hk1)))) B e27_14 (⟨rfl, rfl, rfl⟩)
set_option maxRecDepth 65536 in
set_option maxHeartbeats 40000000 in
theorem con_charAt_81 (hw : Hw a0 Z) (G : Ow.Glo Z cz sf) {u0 u1 u2 : Nat} (GS : GlS Z u0 u1 u2) {pa0 : Nat} {pa1 : Nat} {px0 : Int32} {px1 : Int32} {pk0 : ClassId} {h0 : Heap} (O0 : Old Z n0 h0) (hf0 : Exa Z h0 pa0 "java/lang/String") (hf1 : Fld Z h0 pa0 "java/lang/String" "coder" "B" (.int 0)) (hf2 : Fld Z h0 pa0 "java/lang/String" "value" "[B" (.ref pa1)) (hf3 : Arv Z h0 pa1 pk0 .byte (2 : Int32) [(.int px0.toInt8.toInt32), (.int px1.toInt8.toInt32)] (.int 0)) (hk0 : ¬ (px1 < (0 : Int32))) (hk1 : ¬ ((255 : Int32) < px1)) :
    Ow.Con l Z EL1 n0 my23 jdk_42_method_56_code 2 (Option.some Jvm.ClassFile.FieldType.char) [] ({ frames := 3, cells := 0, slots := 0, locals := 40 } : Room) #[(.ref pa0), (.int 1)] [pa0] h0 (fun v h S' => (v = some (.int px1) ∧ h = h0 ∧ S' = [])) := by
 refine Ow.Con.enter (Ls := #[.val (.ref pa0), .val (.int 1)]) (plainFor_of_name pn1) O0 (hEW hw) (hSA hw) ?_
 intro p e s m below meth c B
 have z0 := Ow.old_le O0
 have lu0 : (u0 : Nat) < n0 := O0.1 ▸ GS.2.1.lt
 have lu1 : (u1 : Nat) < n0 := O0.1 ▸ GS.2.2.2.2.1.lt
 have lu2 : (u2 : Nat) < n0 := O0.1 ▸ GS.2.2.2.2.2.2.lt
 have lpa0 : (pa0 : Nat) < h0.size := hf0.lt
 have lpa1 : (pa1 : Nat) < h0.size := hf3.lt
 refine Ow.aloadN (pc' := 1) B e25_0 ?_
 refine Ow.Go.old (fun o1 => ?_)
 refine Ow.callVirtual (pc' := 4) (W := 0) (k' := 0) (n' := 0) (argsL := []) (rest := []) (K := "java/lang/String") B e25_1 (w153 hw) (w154 hw) (w156 hw) (w156 hw) (w155 hw) (w6 hw) (w157 hw) hf0 (con_isLatin1_31 hw G GS (pa0 := pa0) o1 hf1) pd17 ?_
 intro vq2 h3 S4 q2 zh3
 obtain ⟨rfl, rfl, rfl⟩ := q2
 refine Ow.Go.nr (S' := [pa0]) (st' := [(.int 1)]) ?_
 refine Ow.ifF (pc' := 7) B e25_4 (by decide) ?_
 refine Ow.aloadN (pc' := 8) B e25_7 ?_
 refine Ow.getfield (pc' := 11) B e25_8 (w35 hw) Via.refl hf2 ?_
 refine Ow.iloadN (pc' := 12) B e25_11 ?_
 refine Ow.Go.old (fun o5 => ?_)
 refine Ow.callStatic (pc' := 15) (W := 0) (k' := 0) (n' := 0) (argsL := [(.ref pa1), (.int 1)]) (rest := []) B e25_12 (w158 hw) (w159 hw) (w89 hw) (w160 hw) (con_charAt_80 hw G GS (pa0 := pa1) (px0 := px0) (px1 := px1) (pk0 := pk0) o5 hf3 (hk0) (hk1)) pd20 ?_
 intro vq6 h7 S8 q6 zh7
 obtain ⟨rfl, rfl, rfl⟩ := q6
 refine Ow.Go.nr (S' := [pa0]) (st' := [(.int px1)]) ?_
 exact Ow.retI (S' := []) (t := .char) (hnn := (Ow.cnarrow (Ow.nar_id (hk0) (hk1)))) B e25_15 (⟨rfl, rfl, rfl⟩)
set_option maxRecDepth 65536 in
set_option maxHeartbeats 40000000 in
theorem con_isSegment_82 (hw : Hw a0 Z) (G : Ow.Glo Z cz sf) {u0 u1 u2 : Nat} (GS : GlS Z u0 u1 u2) {pa0 : Nat} {pa1 : Nat} {px0 : Int32} {px1 : Int32} {pk0 : ClassId} {h0 : Heap} (O0 : Old Z n0 h0) (hf0 : Exa Z h0 pa0 "java/lang/String") (hf1 : Fld Z h0 pa0 "java/lang/String" "coder" "B" (.int 0)) (hf2 : Fld Z h0 pa0 "java/lang/String" "value" "[B" (.ref pa1)) (hf3 : Arv Z h0 pa1 pk0 .byte (2 : Int32) [(.int px0.toInt8.toInt32), (.int px1.toInt8.toInt32)] (.int 0)) (hk0 : ¬ (px0 < (0 : Int32))) (hk1 : ¬ ((255 : Int32) < px0)) (hk2 : alP px0) (hk3 : ¬ (px1 < (0 : Int32))) (hk4 : ¬ ((255 : Int32) < px1)) (hk5 : alP px1) :
    Ow.Con l Z EL1 n0 my39 prog_31_method_6_code 2 (Option.some Jvm.ClassFile.FieldType.boolean) [] ({ frames := 4, cells := 0, slots := 0, locals := 53 } : Room) #[(.ref pa0)] [pa0] h0 (fun v h S' => (v = some (.int 1) ∧ h = h0 ∧ S' = [])) := by
 refine Ow.Con.enter (Ls := #[.val (.ref pa0), .unset]) (plainFor_of_name pn4) O0 (hEW hw) (hSA hw) ?_
 intro p e s m below meth c B
 have z0 := Ow.old_le O0
 have lu0 : (u0 : Nat) < n0 := O0.1 ▸ GS.2.1.lt
 have lu1 : (u1 : Nat) < n0 := O0.1 ▸ GS.2.2.2.2.1.lt
 have lu2 : (u2 : Nat) < n0 := O0.1 ▸ GS.2.2.2.2.2.2.lt
 have lpa0 : (pa0 : Nat) < h0.size := hf0.lt
 have lpa1 : (pa1 : Nat) < h0.size := hf3.lt
 refine Ow.aloadN (pc' := 1) B e42_0 ?_
 refine Ow.Go.old (fun o1 => ?_)
 refine Ow.callVirtual (pc' := 4) (W := 0) (k' := 0) (n' := 0) (argsL := []) (rest := []) (K := "java/lang/String") B e42_1 (w231 hw) (w232 hw) (w234 hw) (w234 hw) (w233 hw) (w6 hw) (w235 hw) hf0 (con_isEmpty_77 hw G GS (pa0 := pa0) (pa1 := pa1) (px0 := px0) (px1 := px1) (pk0 := pk0) o1 hf2 hf3) pd17 ?_
 intro vq2 h3 S4 q2 zh3
 obtain ⟨rfl, rfl, rfl⟩ := q2
 refine Ow.Go.nr (S' := [pa0]) (st' := [(.int 0)]) ?_
 refine Ow.ifT (pc' := 9) B e42_4 (by decide) ?_
 refine Ow.iconst (pc' := 10) (x := 0) B e42_9 ?_
 refine Ow.istoreN (pc' := 11) (Ls' := #[.val (.ref pa0), .val (.int 0)]) B e42_10 ?_
 refine Ow.iloadN (pc' := 12) B e42_11 ?_
 refine Ow.aloadN (pc' := 13) B e42_12 ?_
 refine Ow.Go.old (fun o5 => ?_)
 refine Ow.callVirtual (pc' := 16) (W := 1) (k' := 0) (n' := 0) (argsL := []) (rest := [(.int 0)]) (K := "java/lang/String") B e42_13 (w123 hw) (w105 hw) (w107 hw) (w107 hw) (w106 hw) (w6 hw) (w108 hw) hf0 (con_length_59 hw G GS (pa0 := pa0) (pa1 := pa1) (px0 := px0) (px1 := px1) (pk0 := pk0) o5 hf0 hf1 hf2 hf3) pd9 ?_
 intro vq6 h7 S8 q6 zh7
 obtain ⟨rfl, rfl, rfl⟩ := q6
 refine Ow.Go.nr (S' := [pa0]) (st' := [(.int 2), (.int 0)]) ?_
 refine Ow.icmpF (pc' := 19) B e42_16 (by decide) ?_
 refine Ow.aloadN (pc' := 20) B e42_19 ?_
 refine Ow.iloadN (pc' := 21) B e42_20 ?_
 refine Ow.Go.old (fun o9 => ?_)
 refine Ow.callVirtual (pc' := 24) (W := 0) (k' := 0) (n' := 0) (argsL := [(.int 0)]) (rest := []) (K := "java/lang/String") B e42_21 (w236 hw) (w149 hw) (w151 hw) (w151 hw) (w150 hw) (w6 hw) (w152 hw) hf0 (con_charAt_79 hw G GS (pa0 := pa0) (pa1 := pa1) (px0 := px0) (px1 := px1) (pk0 := pk0) o9 hf0 hf1 hf2 hf3 (hk0) (hk1)) pd4 ?_
 intro vq10 h11 S12 q10 zh11
 obtain ⟨rfl, rfl, rfl⟩ := q10
 refine Ow.Go.nr (S' := [pa0]) (st' := [(.int px0)]) ?_
 refine Ow.Go.old (fun o13 => ?_)
 refine Ow.callStatic (pc' := 27) (W := 0) (k' := 0) (n' := 0) (argsL := [(.int px0)]) (rest := []) B e42_24 (w237 hw) (w238 hw) (w76 hw) (w239 hw) (con_isAllowed_42 hw G GS (px0 := px0) o13 (hk2)) pd29 ?_
 intro vq14 h15 S16 q14 zh15
 obtain ⟨rfl, rfl, rfl⟩ := q14
 refine Ow.Go.nr (S' := [pa0]) (st' := [(.int 1)]) ?_
 refine Ow.ifT (pc' := 32) B e42_27 (by decide) ?_
 refine Ow.iinc (pc' := 35) (y := 1) (Ls' := #[.val (.ref pa0), .val (.int 1)]) B e42_32 ?_
 refine Ow.goto (pc' := 11) B e42_35 ?_
 refine Ow.iloadN (pc' := 12) B e42_11 ?_
 refine Ow.aloadN (pc' := 13) B e42_12 ?_
 refine Ow.Go.old (fun o17 => ?_)
 refine Ow.callVirtual (pc' := 16) (W := 1) (k' := 0) (n' := 0) (argsL := []) (rest := [(.int 1)]) (K := "java/lang/String") B e42_13 (w123 hw) (w105 hw) (w107 hw) (w107 hw) (w106 hw) (w6 hw) (w108 hw) hf0 (con_length_59 hw G GS (pa0 := pa0) (pa1 := pa1) (px0 := px0) (px1 := px1) (pk0 := pk0) o17 hf0 hf1 hf2 hf3) pd9 ?_
 intro vq18 h19 S20 q18 zh19
 obtain ⟨rfl, rfl, rfl⟩ := q18
 refine Ow.Go.nr (S' := [pa0]) (st' := [(.int 2), (.int 1)]) ?_
 refine Ow.icmpF (pc' := 19) B e42_16 (by decide) ?_
 refine Ow.aloadN (pc' := 20) B e42_19 ?_
 refine Ow.iloadN (pc' := 21) B e42_20 ?_
 refine Ow.Go.old (fun o21 => ?_)
 refine Ow.callVirtual (pc' := 24) (W := 0) (k' := 0) (n' := 0) (argsL := [(.int 1)]) (rest := []) (K := "java/lang/String") B e42_21 (w236 hw) (w149 hw) (w151 hw) (w151 hw) (w150 hw) (w6 hw) (w152 hw) hf0 (con_charAt_81 hw G GS (pa0 := pa0) (pa1 := pa1) (px0 := px0) (px1 := px1) (pk0 := pk0) o21 hf0 hf1 hf2 hf3 (hk3) (hk4)) pd4 ?_
 intro vq22 h23 S24 q22 zh23
 obtain ⟨rfl, rfl, rfl⟩ := q22
 refine Ow.Go.nr (S' := [pa0]) (st' := [(.int px1)]) ?_
 refine Ow.Go.old (fun o25 => ?_)
 refine Ow.callStatic (pc' := 27) (W := 0) (k' := 0) (n' := 0) (argsL := [(.int px1)]) (rest := []) B e42_24 (w237 hw) (w238 hw) (w76 hw) (w239 hw) (con_isAllowed_42 hw G GS (px0 := px1) o25 (hk5)) pd29 ?_
 intro vq26 h27 S28 q26 zh27
 obtain ⟨rfl, rfl, rfl⟩ := q26
 refine Ow.Go.nr (S' := [pa0]) (st' := [(.int 1)]) ?_
 refine Ow.ifT (pc' := 32) B e42_27 (by decide) ?_
 refine Ow.iinc (pc' := 35) (y := 2) (Ls' := #[.val (.ref pa0), .val (.int 2)]) B e42_32 ?_
 refine Ow.goto (pc' := 11) B e42_35 ?_
 refine Ow.iloadN (pc' := 12) B e42_11 ?_
 refine Ow.aloadN (pc' := 13) B e42_12 ?_
 refine Ow.Go.old (fun o29 => ?_)
 refine Ow.callVirtual (pc' := 16) (W := 1) (k' := 0) (n' := 0) (argsL := []) (rest := [(.int 2)]) (K := "java/lang/String") B e42_13 (w123 hw) (w105 hw) (w107 hw) (w107 hw) (w106 hw) (w6 hw) (w108 hw) hf0 (con_length_59 hw G GS (pa0 := pa0) (pa1 := pa1) (px0 := px0) (px1 := px1) (pk0 := pk0) o29 hf0 hf1 hf2 hf3) pd9 ?_
 intro vq30 h31 S32 q30 zh31
 obtain ⟨rfl, rfl, rfl⟩ := q30
 refine Ow.Go.nr (S' := [pa0]) (st' := [(.int 2), (.int 2)]) ?_
 refine Ow.icmpT (pc' := 38) B e42_16 (by decide) ?_
 refine Ow.iconst (pc' := 39) (x := 1) B e42_38 ?_
 exact Ow.retI (S' := []) (t := .boolean) B e42_39 (⟨rfl, rfl, rfl⟩)
set_option maxRecDepth 65536 in
set_option maxHeartbeats 40000000 in
theorem con_firstInvalid_83 (hw : Hw a0 Z) (G : Ow.Glo Z cz sf) {u0 u1 u2 : Nat} (GS : GlS Z u0 u1 u2) {pa0 : Nat} {pa1 : Nat} {pa2 : Nat} {px0 : Int32} {px1 : Int32} {pk0 : ClassId} {pk1 : ClassId} {h0 : Heap} (O0 : Old Z n0 h0) (hf0 : Arv Z h0 pa0 pk0 (.object "java/lang/String") (1 : Int32) [(.ref pa1)] .null) (hf1 : Exa Z h0 pa1 "java/lang/String") (hf2 : Fld Z h0 pa1 "java/lang/String" "coder" "B" (.int 0)) (hf3 : Fld Z h0 pa1 "java/lang/String" "value" "[B" (.ref pa2)) (hf4 : Arv Z h0 pa2 pk1 .byte (2 : Int32) [(.int px0.toInt8.toInt32), (.int px1.toInt8.toInt32)] (.int 0)) (hn0 : n0 ≤ pa0) (hk0 : ¬ (px0 < (0 : Int32))) (hk1 : ¬ ((255 : Int32) < px0)) (hk2 : alP px0) (hk3 : ¬ (px1 < (0 : Int32))) (hk4 : ¬ ((255 : Int32) < px1)) (hk5 : alP px1) :
    Ow.Con l Z EL1 n0 my40 prog_31_method_5_code 2 (Option.some Jvm.ClassFile.FieldType.int) [] ({ frames := 5, cells := 0, slots := 0, locals := 66 } : Room) #[(.ref pa0)] [pa1] h0 (fun v h S' => (v = some (.int (-1)) ∧ h = h0 ∧ S' = [])) := by
 refine Ow.Con.enter (Ls := #[.val (.ref pa0), .unset]) (plainFor_of_name pn4) O0 (hEW hw) (hSA hw) ?_
 intro p e s m below meth c B
 have z0 := Ow.old_le O0
 have lu0 : (u0 : Nat) < n0 := O0.1 ▸ GS.2.1.lt
 have lu1 : (u1 : Nat) < n0 := O0.1 ▸ GS.2.2.2.2.1.lt
 have lu2 : (u2 : Nat) < n0 := O0.1 ▸ GS.2.2.2.2.2.2.lt
 have lpa0 : (pa0 : Nat) < h0.size := hf0.lt
 have lpa1 : (pa1 : Nat) < h0.size := hf1.lt
 have lpa2 : (pa2 : Nat) < h0.size := hf4.lt
 refine Ow.iconst (pc' := 1) (x := 0) B e41_0 ?_
 refine Ow.istoreN (pc' := 2) (Ls' := #[.val (.ref pa0), .val (.int 0)]) B e41_1 ?_
 refine Ow.iloadN (pc' := 3) B e41_2 ?_
 refine Ow.aloadN (pc' := 4) B e41_3 ?_
 refine Ow.arrlen (pc' := 5) B e41_4 hf0 ?_
 refine Ow.icmpF (pc' := 8) B e41_5 (by decide) ?_
 refine Ow.aloadN (pc' := 9) B e41_8 ?_
 refine Ow.iloadN (pc' := 10) B e41_9 ?_
 refine Ow.aaload (pc' := 11) B e41_10 rfl hf0 ⟨by decide, by decide⟩ rfl ?_
 refine Ow.Go.old (fun o1 => ?_)
 refine Ow.callStatic (pc' := 14) (W := 0) (k' := 0) (n' := 0) (argsL := [(.ref pa1)]) (rest := []) B e41_11 (w228 hw) (w229 hw) (w76 hw) (w230 hw) (con_isSegment_82 hw G GS (pa0 := pa1) (pa1 := pa2) (px0 := px0) (px1 := px1) (pk0 := pk1) o1 hf1 hf2 hf3 hf4 (hk0) (hk1) (hk2) (hk3) (hk4) (hk5)) pd12 ?_
 intro vq2 h3 S4 q2 zh3
 obtain ⟨rfl, rfl, rfl⟩ := q2
 refine Ow.Go.nr (S' := [pa1]) (st' := [(.int 1)]) ?_
 refine Ow.ifT (pc' := 19) B e41_14 (by decide) ?_
 refine Ow.iinc (pc' := 22) (y := 1) (Ls' := #[.val (.ref pa0), .val (.int 1)]) B e41_19 ?_
 refine Ow.goto (pc' := 2) B e41_22 ?_
 refine Ow.iloadN (pc' := 3) B e41_2 ?_
 refine Ow.aloadN (pc' := 4) B e41_3 ?_
 refine Ow.arrlen (pc' := 5) B e41_4 hf0 ?_
 refine Ow.icmpT (pc' := 25) B e41_5 (by decide) ?_
 refine Ow.iconst (pc' := 26) (x := (-1 : Int32)) B e41_25 ?_
 exact Ow.retI (S' := []) (t := .int) B e41_26 (⟨rfl, rfl, rfl⟩)
set_option maxRecDepth 65536 in
set_option maxHeartbeats 40000000 in
theorem con_parse_84 (hw : Hw a0 Z) (G : Ow.Glo Z cz sf) {u0 u1 u2 : Nat} (GS : GlS Z u0 u1 u2) {pa0 : Nat} {pa1 : Nat} {px0 : Int32} {px1 : Int32} {pk0 : ClassId} {h0 : Heap} (O0 : Old Z n0 h0) (hf0 : Exa Z h0 pa0 "java/lang/String") (hf1 : Fld Z h0 pa0 "java/lang/String" "coder" "B" (.int 0)) (hf2 : Fld Z h0 pa0 "java/lang/String" "value" "[B" (.ref pa1)) (hf3 : Arv Z h0 pa1 pk0 .byte (2 : Int32) [(.int px0.toInt8.toInt32), (.int px1.toInt8.toInt32)] (.int 0)) (hk0 : ¬ (px0 < (0 : Int32))) (hk1 : ¬ ((255 : Int32) < px0)) (hk2 : alP px0) (hk3 : ¬ (px1 < (0 : Int32))) (hk4 : ¬ ((255 : Int32) < px1)) (hk5 : alP px1) :
    Ow.Con l Z EL1 n0 my49 prog_31_method_2_code 3 (Option.some (Jvm.ClassFile.FieldType.object "java/util/Optional")) [] ({ frames := 7, cells := 15, slots := 93, locals := 103 } : Room) #[(.ref pa0)] [pa0] h0 (fun v h S' => (∃ r0 : Nat, ∃ r1 : Nat, ∃ r2 : Nat, v = some (.ref r0) ∧ Keep h0 h [] ∧ h0.size ≤ r0 ∧ h0.size ≤ r1 ∧ h0.size ≤ r2 ∧ r1 ≠ r0 ∧ r2 ≠ r0 ∧ r2 ≠ r1 ∧ Exa Z h r0 "java/util/Optional" ∧ Fld Z h r0 "java/util/Optional" "value" "Ljava/lang/Object;" (.ref r1) ∧ Exa Z h r1 "com/example/ply3/ply3/Target" ∧ Fld Z h r1 "com/example/ply3/ply3/Target" "name" "Ljava/lang/String;" (.ref pa0) ∧ Fld Z h r1 "com/example/ply3/ply3/Target" "segments" "Ljava/util/List;" (.ref r2) ∧ Exa Z h r2 "java/util/ImmutableCollections$List12" ∧ Fld Z h r2 "java/util/ImmutableCollections$List12" "e0" "Ljava/lang/Object;" (.ref pa0) ∧ Fld Z h r2 "java/util/ImmutableCollections$List12" "e1" "Ljava/lang/Object;" (.ref u2) ∧ S' = [])) := by
 refine Ow.Con.enter (Ls := #[.val (.ref pa0), .unset, .unset]) (plainFor_of_name pn4) O0 (hEW hw) (hSA hw) ?_
 intro p e s m below meth c B
 have z0 := Ow.old_le O0
 have lu0 : (u0 : Nat) < n0 := O0.1 ▸ GS.2.1.lt
 have lu1 : (u1 : Nat) < n0 := O0.1 ▸ GS.2.2.2.2.1.lt
 have lu2 : (u2 : Nat) < n0 := O0.1 ▸ GS.2.2.2.2.2.2.lt
 have lpa0 : (pa0 : Nat) < h0.size := hf0.lt
 have lpa1 : (pa1 : Nat) < h0.size := hf3.lt
 refine Ow.aloadN (pc' := 1) B e10_0 ?_
 refine Ow.ldcText (pc' := 3) (k' := 2) (n' := 8) (nn := 4) (vs := [(.int 47)]) (z := 1) B e10_1 (w78 hw) (by decide) ⟨by decide, by decide⟩ (by decide) (by decide) ?_
 intro h2 a1 t3 kt3 Kh2 Ea1 Ca1 Va1 At3 Na1
 have zh2 := Kh2.1
 have la1 : (a1 : Nat) < h2.size := Ea1.lt
 have lt3 : (t3 : Nat) < h2.size := At3.lt
 have n4 : (pa0 : Nat) ≠ a1 ∧ (pa0 : Nat) ≠ t3 := Na1 pa0 (by simp)
 refine Ow.Go.old (fun o5 => ?_)
 have f6 := hf1.keep Kh2 Ow.nin0
 have f7 := hf2.keep Kh2 Ow.nin0
 have f8 := hf3.keep Kh2 Ow.nin0
 have f9 := hf0.keep Kh2
 refine Ow.callVirtual (pc' := 6) (W := 0) (k' := 2) (n' := 8) (argsL := [(.ref a1)]) (rest := []) (K := "java/lang/String") B e10_3 (w81 hw) (w82 hw) (w84 hw) (w84 hw) (w83 hw) (w6 hw) (w85 hw) f9 (con_equals_58 hw G GS (pa0 := pa0) (pa1 := a1) (pa2 := pa1) (pa3 := t3) (px0 := px0) (px1 := px1) (pk0 := pk0) (pk1 := kt3) o5 f6 f7 Ea1 Ca1 Va1 f8 At3 (by omega) (hk2) (hk5)) pd7 ?_
 intro vq10 h11 S12 q10 zh11
 obtain ⟨rfl, rfl, rfl⟩ := q10
 refine Ow.Go.nr (S' := [pa0]) (st' := [(.int 0)]) ?_
 refine Ow.ifT (pc' := 27) B e10_6 (by decide) ?_
 refine Ow.aloadN (pc' := 28) B e10_27 ?_
 refine Ow.Go.old (fun o13 => ?_)
 refine Ow.callStatic (pc' := 31) (W := 0) (k' := 6) (n' := 24) (argsL := [(.ref pa0)]) (rest := []) B e10_28 (w91 hw) (w92 hw) (w76 hw) (w93 hw) (con_name_69 hw G GS (pa0 := pa0) (pa1 := pa1) (px0 := px0) (px1 := px1) (pk0 := pk0) o13 f9 f6 f7 f8 (hk2) (hk5)) pd16 ?_
 intro vq14 h15 S16 q14 zh15
 obtain ⟨rfl, Kh15, rfl⟩ := q14
 refine Ow.Go.nr (S' := [pa0]) (st' := [(.ref pa0)]) ?_
 refine Ow.astoreN (pc' := 32) (Ls' := #[.val (.ref pa0), .val (.ref pa0), .unset]) B e10_31 ?_
 refine Ow.aloadN (pc' := 33) B e10_32 ?_
 refine Ow.ldcText (pc' := 35) (k' := 8) (n' := 32) (nn := 4) (vs := [(.int 47)]) (z := 1) B e10_33 (w78 hw) (by decide) ⟨by decide, by decide⟩ (by decide) (by decide) ?_
 intro h18 a17 t19 kt19 Kh18 Ea17 Ca17 Va17 At19 Na17
 have zh18 := Kh18.1
 have la17 : (a17 : Nat) < h18.size := Ea17.lt
 have lt19 : (t19 : Nat) < h18.size := At19.lt
 have n20 : (pa0 : Nat) ≠ a17 ∧ (pa0 : Nat) ≠ t19 := Na17 pa0 (by simp)
 refine Ow.iconst (pc' := 36) (x := (-1 : Int32)) B e10_35 ?_
 refine Ow.Go.old (fun o21 => ?_)
 have f22 := f9.keep Kh15
 have f23 := f22.keep Kh18
 have f24 := f6.keep Kh15 Ow.nin0
 have f25 := f24.keep Kh18 Ow.nin0
 have f26 := f7.keep Kh15 Ow.nin0
 have f27 := f26.keep Kh18 Ow.nin0
 have f28 := f8.keep Kh15 Ow.nin0
 have f29 := f28.keep Kh18 Ow.nin0
 refine Ow.callVirtual (pc' := 39) (W := 0) (k' := 12) (n' := 88) (argsL := [(.ref a17), (.int (-1))]) (rest := []) (K := "java/lang/String") B e10_36 (w137 hw) (w138 hw) (w140 hw) (w140 hw) (w139 hw) (w6 hw) (w141 hw) f23 (con_split_76 hw G GS (pa0 := pa0) (pa1 := a17) (pa2 := pa1) (pa3 := t19) (px0 := px0) (px1 := px1) (pk0 := pk0) (pk1 := kt19) o21 f23 f25 f27 Ea17 Ca17 Va17 f29 At19 (hk2) (hk5)) pd28 ?_
 intro vq30 h31 S32 q30 zh31
 obtain ⟨r33, k34, rfl, Kh31, br33, f35, rfl⟩ := q30
 have lr33 : (r33 : Nat) < h31.size := f35.lt
 refine Ow.Go.nr (S' := [pa0]) (st' := [(.ref r33)]) ?_
 refine Ow.astoreN (pc' := 40) (Ls' := #[.val (.ref pa0), .val (.ref pa0), .val (.ref r33)]) B e10_39 ?_
 refine Ow.aloadN (pc' := 41) B e10_40 ?_
 refine Ow.Go.old (fun o36 => ?_)
 have f37 := f23.keep Kh31
 have f38 := f25.keep Kh31 Ow.nin0
 have f39 := f27.keep Kh31 Ow.nin0
 have f40 := f29.keep Kh31 Ow.nin0
 refine Ow.callStatic (pc' := 44) (W := 0) (k' := 12) (n' := 88) (argsL := [(.ref r33)]) (rest := []) B e10_41 (w225 hw) (w226 hw) (w76 hw) (w227 hw) (con_firstInvalid_83 hw G GS (pa0 := r33) (pa1 := pa0) (pa2 := pa1) (px0 := px0) (px1 := px1) (pk0 := k34) (pk1 := pk0) o36 f35 f37 f38 f39 f40 (by omega) (hk0) (hk1) (hk2) (hk3) (hk4) (hk5)) pd30 ?_
 intro vq41 h42 S43 q41 zh42
 obtain ⟨rfl, rfl, rfl⟩ := q41
 refine Ow.Go.nr (S' := [pa0]) (st' := [(.int (-1))]) ?_
 refine Ow.ifT (pc' := 51) B e10_44 (by decide) ?_
 refine Ow.newObj (pc' := 54) (k' := 13) (n' := 90) B e10_51 (w240 hw) (w241 hw) (w76 hw) ?_
 intro h45 a44 ga44 ba44 Kh45 Aa44 Da44
 have zh45 := Kh45.1
 have la44 : (a44 : Nat) < h45.size := Aa44.lt
 have f46 : Fld Z h45 a44 "com/example/ply3/ply3/Target" "name" "Ljava/lang/String;" .null := Da44 (Or.inr (w282 hw)) (ty := (.object "java/lang/String")) (by decide)
 have f47 : Fld Z h45 a44 "com/example/ply3/ply3/Target" "segments" "Ljava/util/List;" .null := Da44 (Or.inr (w284 hw)) (ty := (.object "java/util/List")) (by decide)
 refine Ow.dup (pc' := 55) B e10_54 ?_
 refine Ow.aloadN (pc' := 56) B e10_55 ?_
 refine Ow.aloadN (pc' := 57) B e10_56 ?_
 refine Ow.Go.old (fun o48 => ?_)
 have f49 := f35.keep Kh45 Ow.nin0
 refine Ow.callStatic (pc' := 60) (W := 3) (k' := 14) (n' := 92) (argsL := [(.ref r33)]) (rest := [(.ref pa0), (.ref a44), (.ref a44)]) B e10_57 (w242 hw) (w243 hw) (w244 hw) (w245 hw) (con_of_49 hw G GS (pa0 := r33) (pa1 := pa0) (pk0 := k34) o48 f49 (by omega)) pd33 ?_
 intro vq50 h51 S52 q50 zh51
 obtain ⟨r53, rfl, Kh51, br53, f54, f55, f56, rfl⟩ := q50
 have lr53 : (r53 : Nat) < h51.size := f54.lt
 refine Ow.Go.nr (S' := [a44, pa0]) (st' := [(.ref r53), (.ref pa0), (.ref a44), (.ref a44)]) ?_
 refine Ow.Go.old (fun o57 => ?_)
 have f58 := Aa44.keep Kh51
 have f59 := f46.keep Kh51 Ow.nin0
 have f60 := f47.keep Kh51 Ow.nin0
 refine Ow.callInit (pc' := 63) (W := 1) (k' := 14) (n' := 92) (argsL := [(.ref pa0), (.ref r53)]) (rest := [(.ref a44)]) B e10_60 (w277 hw) (w278 hw) (w76 hw) (w279 hw) (con_init_50 hw G GS (pa0 := a44) (pa1 := pa0) (pa2 := r53) o57 f58 f59 f60 (by omega)) pd34 ?_
 intro vq61 h62 S63 q61 zh62
 obtain ⟨rfl, Kh62, f64, f65, f66, rfl⟩ := q61
 refine Ow.Go.nr (S' := [a44, pa0]) (st' := [(.ref a44)]) ?_
 refine Ow.Go.old (fun o67 => ?_)
 refine Ow.callStatic (pc' := 66) (W := 0) (k' := 15) (n' := 93) (argsL := [(.ref a44)]) (rest := []) B e10_63 (w285 hw) (w286 hw) (w53 hw) (w287 hw) (con_of_52 hw G GS (pa0 := a44) o67) pd35 ?_
 intro vq68 h69 S70 q68 zh69
 obtain ⟨r71, rfl, Kh69, br71, f72, f73, rfl⟩ := q68
 have lr71 : (r71 : Nat) < h69.size := f72.lt
 refine Ow.Go.nr (S' := [a44, pa0]) (st' := [(.ref r71)]) ?_
 have f74 := f64.keep Kh69
 have f75 := f65.keep Kh69 Ow.nin0
 have f76 := f66.keep Kh69 Ow.nin0
 have f77 := f54.keep Kh62
 have f78 := f77.keep Kh69
 have f79 := f55.keep Kh62 (Ow.ninS (by omega) Ow.nin0)
 have f80 := f79.keep Kh69 Ow.nin0
 have f81 := f56.keep Kh62 (Ow.ninS (by omega) Ow.nin0)
 have f82 := f81.keep Kh69 Ow.nin0
 exact Ow.retA (S' := []) (t := (.object "java/util/Optional")) B e10_66 (⟨r71, a44, r53, rfl, (((((((((Keep.refl _ []).trans Kh2 (fun _ q => nomatch q)).trans Kh15 (fun _ q => nomatch q)).trans Kh18 (fun _ q => nomatch q)).trans Kh31 (fun _ q => nomatch q)).trans Kh45 (fun _ q => nomatch q)).trans Kh51 (fun _ q => nomatch q)).trans Kh62 (allS (Or.inr (by omega)) all0)).trans Kh69 (fun _ q => nomatch q)), (by omega), (by omega), (by omega), (by omega), (by omega), (by omega), f72, f73, f74, f75, f76, f78, f80, f82, rfl⟩)
set_option maxRecDepth 65536 in
set_option maxHeartbeats 40000000 in
theorem con_parse_85 (hw : Hw a0 Z) (G : Ow.Glo Z cz sf) {u0 u1 u2 : Nat} (GS : GlS Z u0 u1 u2) {pa0 : Nat} {pa1 : Nat} {px0 : Int32} {px1 : Int32} {pk0 : ClassId} {h0 : Heap} (O0 : Old Z n0 h0) (hf0 : Exa Z h0 pa0 "java/lang/String") (hf1 : Fld Z h0 pa0 "java/lang/String" "coder" "B" (.int 0)) (hf2 : Fld Z h0 pa0 "java/lang/String" "value" "[B" (.ref pa1)) (hf3 : Arv Z h0 pa1 pk0 .byte (2 : Int32) [(.int px0.toInt8.toInt32), (.int px1.toInt8.toInt32)] (.int 0)) (hk0 : ¬ (px0 < (0 : Int32))) (hk1 : ¬ ((255 : Int32) < px0)) (hk2 : alP px0) (hk3 : ¬ (px1 < (0 : Int32))) (hk4 : ¬ ((255 : Int32) < px1)) (hk5 : alP px1) :
    Ow.Con l Z EL1 n0 my51 prog_14_method_4_code 1 (Option.some (Jvm.ClassFile.FieldType.object "com/example/ply3/ply3/Target")) [] ({ frames := 8, cells := 16, slots := 94, locals := 3074 } : Room) #[(.ref pa0)] [pa0] h0 (fun v h S' => (∃ r0 : Nat, ∃ r1 : Nat, v = some (.ref r0) ∧ Keep h0 h [] ∧ h0.size ≤ r0 ∧ h0.size ≤ r1 ∧ r1 ≠ r0 ∧ Exa Z h r0 "com/example/ply3/ply3/Target" ∧ Fld Z h r0 "com/example/ply3/ply3/Target" "name" "Ljava/lang/String;" (.ref pa0) ∧ Fld Z h r0 "com/example/ply3/ply3/Target" "segments" "Ljava/util/List;" (.ref r1) ∧ Exa Z h r1 "java/util/ImmutableCollections$List12" ∧ Fld Z h r1 "java/util/ImmutableCollections$List12" "e0" "Ljava/lang/Object;" (.ref pa0) ∧ Fld Z h r1 "java/util/ImmutableCollections$List12" "e1" "Ljava/lang/Object;" (.ref u2) ∧ S' = [])) := by
 refine Ow.Con.enterM (Ls := #[.val (.ref pa0)]) (plainFor_of_name pn3) O0 (hEW hw) (hSA hw) ?_
 intro p e s m below meth c B hmn hpw
 have z0 := Ow.old_le O0
 have lu0 : (u0 : Nat) < n0 := O0.1 ▸ GS.2.1.lt
 have lu1 : (u1 : Nat) < n0 := O0.1 ▸ GS.2.2.2.2.1.lt
 have lu2 : (u2 : Nat) < n0 := O0.1 ▸ GS.2.2.2.2.2.2.lt
 have lpa0 : (pa0 : Nat) < h0.size := hf0.lt
 have lpa1 : (pa1 : Nat) < h0.size := hf3.lt
 refine Ow.aloadN (pc' := 1) B e9_0 ?_
 refine Ow.Go.old (fun o1 => ?_)
 refine Ow.callStatic (pc' := 4) (W := 0) (k' := 15) (n' := 93) (argsL := [(.ref pa0)]) (rest := []) B e9_1 (w74 hw) (w75 hw) (w76 hw) (w77 hw) (con_parse_84 hw G GS (pa0 := pa0) (pa1 := pa1) (px0 := px0) (px1 := px1) (pk0 := pk0) o1 hf0 hf1 hf2 hf3 (hk0) (hk1) (hk2) (hk3) (hk4) (hk5)) pd36 ?_
 intro vq2 h3 S4 q2 zh3
 obtain ⟨r5, r6, r7, rfl, Kh3, br5, br6, br7, n8, n9, n10, f11, f12, f13, f14, f15, f16, f17, f18, rfl⟩ := q2
 have lr5 : (r5 : Nat) < h3.size := f11.lt
 have lr6 : (r6 : Nat) < h3.size := f13.lt
 have lr7 : (r7 : Nat) < h3.size := f16.lt
 refine Ow.Go.nr (S' := [pa0]) (st' := [(.ref r5)]) ?_
 refine Ow.aloadN (pc' := 5) B e9_4 ?_
 refine Ow.indy (pc' := 10) (k' := 16) (n' := 94) (W := 1) (T0 := "java/lang/String") B e9_5 hmn hpw (w296 hw) (w299 hw) (by decide +kernel) ?_
 intro h20 a19 ga19 ba19 Kh20 la19
 have zh20 := Kh20.1
 refine Ow.Go.old (fun o21 => ?_)
 have f22 := f12.keep Kh20 Ow.nin0
 have f23 := f11.keep Kh20
 refine Ow.callVirtual (pc' := 13) (W := 0) (k' := 16) (n' := 94) (argsL := [(.ref a19)]) (rest := []) (K := "java/util/Optional") B e9_10 (w300 hw) (w301 hw) (w303 hw) (w303 hw) (w302 hw) (w53 hw) (w304 hw) f23 (con_orElseThrow_54 hw G GS (pa0 := r5) (pa1 := a19) (pa2 := r6) o21 f22 (by omega)) pd37 ?_
 intro vq24 h25 S26 q24 zh25
 obtain ⟨rfl, rfl, rfl⟩ := q24
 refine Ow.Go.nr (S' := [a19, pa0]) (st' := [(.ref r6)]) ?_
 have f27 := f13.keep Kh20
 refine Ow.checkcast (pc' := 16) B e9_13 (w305 hw) (Ins.self f27) ?_
 have f28 := f14.keep Kh20 Ow.nin0
 have f29 := f15.keep Kh20 Ow.nin0
 have f30 := f16.keep Kh20
 have f31 := f17.keep Kh20 Ow.nin0
 have f32 := f18.keep Kh20 Ow.nin0
 exact Ow.retA (S' := []) (t := (.object "com/example/ply3/ply3/Target")) B e9_16 (⟨r6, r7, rfl, (((Keep.refl _ []).trans Kh3 (fun _ q => nomatch q)).trans Kh20 (fun _ q => nomatch q)), (by omega), (by omega), (by omega), f27, f28, f29, f30, f31, f32, rfl⟩)
set_option maxRecDepth 65536 in
set_option maxHeartbeats 40000000 in
theorem con_redirectTo_86 (hw : Hw a0 Z) (G : Ow.Glo Z cz sf) {u0 u1 u2 : Nat} (GS : GlS Z u0 u1 u2) {pa0 : Nat} {pa1 : Nat} {pa2 : Nat} {px0 : Int32} {px1 : Int32} {px2 : Int32} {pk0 : ClassId} {h0 : Heap} (O0 : Old Z n0 h0) (hf0 : Exa Z h0 pa0 "com/example/ply3/ply3/Navigator") (hf1 : Fld Z h0 pa0 "com/example/ply3/ply3/Navigator" "internal" "Z" (.int px0)) (hf2 : Fld Z h0 pa0 "com/example/ply3/ply3/Navigator" "redirect" "Lcom/example/ply3/ply3/Target;" vr) (hf3 : Exa Z h0 pa1 "java/lang/String") (hf4 : Fld Z h0 pa1 "java/lang/String" "coder" "B" (.int 0)) (hf5 : Fld Z h0 pa1 "java/lang/String" "value" "[B" (.ref pa2)) (hf6 : Arv Z h0 pa2 pk0 .byte (2 : Int32) [(.int px1.toInt8.toInt32), (.int px2.toInt8.toInt32)] (.int 0)) (hn0 : n0 ≤ pa0) (hk0 : ¬ (px1 < (0 : Int32))) (hk1 : ¬ ((255 : Int32) < px1)) (hk2 : alP px1) (hk3 : ¬ (px2 < (0 : Int32))) (hk4 : ¬ ((255 : Int32) < px2)) (hk5 : alP px2) :
    Ow.Con l Z EL1 n0 my52 prog_14_method_2_code 2 (Option.none : Option Jvm.ClassFile.FieldType) [] ({ frames := 9, cells := 16, slots := 94, locals := 3087 } : Room) #[(.ref pa0), (.ref pa1)] [pa1] h0 (fun v h S' => (∃ r0 : Nat, ∃ r1 : Nat, v = none ∧ Keep h0 h [pa0] ∧ h0.size ≤ r0 ∧ h0.size ≤ r1 ∧ r1 ≠ r0 ∧ Exa Z h pa0 "com/example/ply3/ply3/Navigator" ∧ Fld Z h pa0 "com/example/ply3/ply3/Navigator" "internal" "Z" (.int 0) ∧ Fld Z h pa0 "com/example/ply3/ply3/Navigator" "redirect" "Lcom/example/ply3/ply3/Target;" (.ref r0) ∧ Exa Z h r0 "com/example/ply3/ply3/Target" ∧ Fld Z h r0 "com/example/ply3/ply3/Target" "name" "Ljava/lang/String;" (.ref pa1) ∧ Fld Z h r0 "com/example/ply3/ply3/Target" "segments" "Ljava/util/List;" (.ref r1) ∧ Exa Z h r1 "java/util/ImmutableCollections$List12" ∧ Fld Z h r1 "java/util/ImmutableCollections$List12" "e0" "Ljava/lang/Object;" (.ref pa1) ∧ Fld Z h r1 "java/util/ImmutableCollections$List12" "e1" "Ljava/lang/Object;" (.ref u2) ∧ S' = [])) := by
 refine Ow.Con.enter (Ls := #[.val (.ref pa0), .val (.ref pa1)]) (plainFor_of_name pn3) O0 (hEW hw) (hSA hw) ?_
 intro p e s m below meth c B
 have z0 := Ow.old_le O0
 have lu0 : (u0 : Nat) < n0 := O0.1 ▸ GS.2.1.lt
 have lu1 : (u1 : Nat) < n0 := O0.1 ▸ GS.2.2.2.2.1.lt
 have lu2 : (u2 : Nat) < n0 := O0.1 ▸ GS.2.2.2.2.2.2.lt
 have lpa0 : (pa0 : Nat) < h0.size := hf0.lt
 have lpa1 : (pa1 : Nat) < h0.size := hf3.lt
 have lpa2 : (pa2 : Nat) < h0.size := hf6.lt
 refine Ow.aloadN (pc' := 1) B e8_0 ?_
 refine Ow.aloadN (pc' := 2) B e8_1 ?_
 refine Ow.Go.old (fun o1 => ?_)
 refine Ow.callStatic (pc' := 5) (W := 1) (k' := 16) (n' := 94) (argsL := [(.ref pa1)]) (rest := [(.ref pa0)]) B e8_2 (w71 hw) (w72 hw) (w39 hw) (w73 hw) (con_parse_85 hw G GS (pa0 := pa1) (pa1 := pa2) (px0 := px1) (px1 := px2) (pk0 := pk0) o1 hf3 hf4 hf5 hf6 (hk0) (hk1) (hk2) (hk3) (hk4) (hk5)) pd38 ?_
 intro vq2 h3 S4 q2 zh3
 obtain ⟨r5, r6, rfl, Kh3, br5, br6, n7, f8, f9, f10, f11, f12, f13, rfl⟩ := q2
 have lr5 : (r5 : Nat) < h3.size := f8.lt
 have lr6 : (r6 : Nat) < h3.size := f11.lt
 refine Ow.Go.nr (S' := [pa1]) (st' := [(.ref r5), (.ref pa0)]) ?_
 have f14 := hf2.keep Kh3 Ow.nin0
 have f15 := hf0.keep Kh3
 refine Ow.putfield (pc' := 8) (ty := (.object "com/example/ply3/ply3/Target")) B e8_5 (w307 hw) Via.refl f14 f15 (Or.inl (w308 hw)) (w38 hw) (Or.inr ⟨by decide, by decide⟩) ?_
 intro h16 Wh16
 have f17 := hf1.keep Kh3 Ow.nin0
 have Kh16 := Keep.of_wr Wh16
 have zh16 := Kh16.1
 have f18 : Fld Z h16 pa0 "com/example/ply3/ply3/Navigator" "redirect" "Lcom/example/ply3/ply3/Target;" (.ref r5) := f14.same Wh16
 have f19 : Fld Z h16 pa0 "com/example/ply3/ply3/Navigator" "internal" "Z" (.int px0) := f17.other Wh16 (Or.inr (slot_ne (a0 := a0) (C := "com/example/ply3/ply3/Navigator") (t := .boolean) (t' := (.object "com/example/ply3/ply3/Target")) (Or.inl (w50 hw)) (Or.inl (w308 hw)) (by decide) (by decide) (by decide)))
 refine Ow.aloadN (pc' := 9) B e8_8 ?_
 refine Ow.iconst (pc' := 10) (x := 0) B e8_9 ?_
 have f20 := f15.keep Kh16
 refine Ow.putfield (pc' := 13) (ty := .boolean) B e8_10 (w49 hw) Via.refl f19 f20 (Or.inl (w50 hw)) (w38 hw) (Or.inr ⟨by decide, by decide⟩) ?_
 intro h21 Wh21
 have Kh21 := Keep.of_wr Wh21
 have zh21 := Kh21.1
 have f22 : Fld Z h21 pa0 "com/example/ply3/ply3/Navigator" "internal" "Z" (.int 0) := f19.same Wh21
 have f23 : Fld Z h21 pa0 "com/example/ply3/ply3/Navigator" "redirect" "Lcom/example/ply3/ply3/Target;" (.ref r5) := f18.other Wh21 (Or.inr (slot_ne (a0 := a0) (C := "com/example/ply3/ply3/Navigator") (t := (.object "com/example/ply3/ply3/Target")) (t' := .boolean) (Or.inl (w308 hw)) (Or.inl (w50 hw)) (by decide) (by decide) (by decide)))
 have f24 := f20.keep Kh21
 have f25 := f8.keep Kh16
 have f26 := f25.keep Kh21
 have f27 := f9.keep Kh16 (Ow.ninS (by omega) Ow.nin0)
 have f28 := f27.keep Kh21 (Ow.ninS (by omega) Ow.nin0)
 have f29 := f10.keep Kh16 (Ow.ninS (by omega) Ow.nin0)
 have f30 := f29.keep Kh21 (Ow.ninS (by omega) Ow.nin0)
 have f31 := f11.keep Kh16
 have f32 := f31.keep Kh21
 have f33 := f12.keep Kh16 (Ow.ninS (by omega) Ow.nin0)
 have f34 := f33.keep Kh21 (Ow.ninS (by omega) Ow.nin0)
 have f35 := f13.keep Kh16 (Ow.ninS (by omega) Ow.nin0)
 have f36 := f35.keep Kh21 (Ow.ninS (by omega) Ow.nin0)
 exact Ow.retV (S' := []) B e8_13 (⟨r5, r6, rfl, ((((Keep.refl _ [pa0]).trans Kh3 (fun _ q => nomatch q)).trans Kh16 (allS (Or.inl (by simp)) all0)).trans Kh21 (allS (Or.inl (by simp)) all0)), (by omega), (by omega), (by omega), f24, f22, f23, f26, f28, f30, f32, f34, f36, rfl⟩)
set_option maxRecDepth 65536 in
set_option maxHeartbeats 40000000 in
theorem gCall0 (hw : Hw a0 Z) (G : Ow.Glo Z cz sf) {u0 u1 u2 : Nat} (GS : GlS Z u0 u1 u2) {h0 : Heap} (O0 : Old Z n0 h0) {nv sn t : Nat} {kt : ClassId} {cs : List Int32} {vr : Value} {fi : Int32} (E : Exa Z h0 nv "com/example/ply3/ply3/Navigator") (V1 : Fld Z h0 nv "com/example/ply3/ply3/Navigator" "redirect" "Lcom/example/ply3/ply3/Target;" vr) (V2 : Fld Z h0 nv "com/example/ply3/ply3/Navigator" "internal" "Z" (.int fi)) (F : Ow.Chs Z h0 sn t kt cs) (hN : NmP cs) (hb : n0 ≤ nv) (hne1 : sn ≠ nv) (hne2 : t ≠ nv) :
    Ow.Con l Z EL1 n0 my53 method_3_code 3 (Option.none : Option Jvm.ClassFile.FieldType) [] ({ frames := 10, cells := 16, slots := 94, locals := 3100 } : Room) #[(.ref nv), (.int 0), (.ref sn)] [sn] h0 (fun v h S' => ∃ T : Nat, v = none ∧ Keep h0 h [nv] ∧ h0.size ≤ T ∧ Fld Z h nv "com/example/ply3/ply3/Navigator" "redirect" "Lcom/example/ply3/ply3/Target;" (.ref T) ∧ Fld Z h nv "com/example/ply3/ply3/Navigator" "internal" "Z" (.int 0) ∧ Exa Z h T "com/example/ply3/ply3/Target" ∧ Fld Z h T "com/example/ply3/ply3/Target" "name" "Ljava/lang/String;" (.ref sn) ∧ S' = []) := by
 rcases hN with ⟨x, rfl, hx⟩ | ⟨x, y, rfl, hx, hy⟩
 ·refine Ow.Con.enter (Ls := #[.val (.ref nv), .val (.int 0), .val (.ref sn)]) (plainFor_of_name pn2) O0 (hEW hw) (hSA hw) ?_
  intro p e s m below meth c B
  have z0 := Ow.old_le O0
  have lu0 : (u0 : Nat) < n0 := O0.1 ▸ GS.2.1.lt
  have lu1 : (u1 : Nat) < n0 := O0.1 ▸ GS.2.2.2.2.1.lt
  have lu2 : (u2 : Nat) < n0 := O0.1 ▸ GS.2.2.2.2.2.2.lt
  have lnv : (nv : Nat) < h0.size := E.lt
  have lsn : (sn : Nat) < h0.size := F.lt
  have lt : (t : Nat) < h0.size := F.ltt
  obtain ⟨oc, oa⟩ := F.lat (cs := [x]) (Ow.allI (al255 hx) Ow.allI0)
  have oa1 : Arv Z h0 t kt .byte (1 : Int32) [(.int x.toInt8.toInt32)] (.int 0) := oa
  refine Ow.iloadN (pc' := 1) B e7_0 ?_
  refine Ow.ifT (pc' := 12) B e7_1 (by decide) ?_
  refine Ow.aloadN (pc' := 13) B e7_12 ?_
  refine Ow.aloadN (pc' := 14) B e7_13 ?_
  refine Ow.Go.old (fun o1 => ?_)
  refine Ow.callVirtual (pc' := 17) (W := 0) (k' := 16) (n' := 94) (argsL := [(.ref sn)]) (rest := []) (K := "com/example/ply3/ply3/Navigator") B e7_14 (w309 hw) (w310 hw) (w312 hw) (w312 hw) (w311 hw) (w39 hw) (w313 hw) E (con_redirectTo_56 hw G GS (pa0 := nv) (pa1 := sn) (pa2 := t) (px0 := fi) (px1 := x) (pk0 := kt) o1 E V2 V1 F.1 oc F.2.1 oa1 (by omega) ((al0 hx)) ((al255 hx)) (hx)) pd39 ?_
  intro vq2 h3 S4 q2 zh3
  obtain ⟨r5, r6, rfl, Kh3, br5, br6, n7, f8, f9, f10, f11, f12, f13, f14, f15, f16, rfl⟩ := q2
  have lr5 : (r5 : Nat) < h3.size := f11.lt
  have lr6 : (r6 : Nat) < h3.size := f14.lt
  refine Ow.Go.nr (S' := [sn]) (st' := []) ?_
  exact Ow.retV (S' := []) B e7_17 (⟨r5, rfl, ((Keep.refl _ [nv]).trans Kh3 (allS (Or.inl (by simp)) all0)), (by omega), f10, f9, f11, f12, rfl⟩)
 ·refine Ow.Con.enter (Ls := #[.val (.ref nv), .val (.int 0), .val (.ref sn)]) (plainFor_of_name pn2) O0 (hEW hw) (hSA hw) ?_
  intro p e s m below meth c B
  have z0 := Ow.old_le O0
  have lu0 : (u0 : Nat) < n0 := O0.1 ▸ GS.2.1.lt
  have lu1 : (u1 : Nat) < n0 := O0.1 ▸ GS.2.2.2.2.1.lt
  have lu2 : (u2 : Nat) < n0 := O0.1 ▸ GS.2.2.2.2.2.2.lt
  have lnv : (nv : Nat) < h0.size := E.lt
  have lsn : (sn : Nat) < h0.size := F.lt
  have lt : (t : Nat) < h0.size := F.ltt
  obtain ⟨oc, oa⟩ := F.lat (cs := [x, y]) (Ow.allI (al255 hx) (Ow.allI (al255 hy) Ow.allI0))
  have oa1 : Arv Z h0 t kt .byte (2 : Int32) [(.int x.toInt8.toInt32), (.int y.toInt8.toInt32)] (.int 0) := oa
  refine Ow.iloadN (pc' := 1) B e7_0 ?_
  refine Ow.ifT (pc' := 12) B e7_1 (by decide) ?_
  refine Ow.aloadN (pc' := 13) B e7_12 ?_
  refine Ow.aloadN (pc' := 14) B e7_13 ?_
  refine Ow.Go.old (fun o1 => ?_)
  refine Ow.callVirtual (pc' := 17) (W := 0) (k' := 16) (n' := 94) (argsL := [(.ref sn)]) (rest := []) (K := "com/example/ply3/ply3/Navigator") B e7_14 (w309 hw) (w310 hw) (w312 hw) (w312 hw) (w311 hw) (w39 hw) (w313 hw) E (con_redirectTo_86 hw G GS (pa0 := nv) (pa1 := sn) (pa2 := t) (px0 := fi) (px1 := x) (px2 := y) (pk0 := kt) o1 E V2 V1 F.1 oc F.2.1 oa1 (by omega) ((al0 hx)) ((al255 hx)) (hx) ((al0 hy)) ((al255 hy)) (hy)) pd39 ?_
  intro vq2 h3 S4 q2 zh3
  obtain ⟨r5, r6, rfl, Kh3, br5, br6, n7, f8, f9, f10, f11, f12, f13, f14, f15, f16, rfl⟩ := q2
  have lr5 : (r5 : Nat) < h3.size := f11.lt
  have lr6 : (r6 : Nat) < h3.size := f14.lt
  refine Ow.Go.nr (S' := [sn]) (st' := []) ?_
  exact Ow.retV (S' := []) B e7_17 (⟨r5, rfl, ((Keep.refl _ [nv]).trans Kh3 (allS (Or.inl (by simp)) all0)), (by omega), f10, f9, f11, f12, rfl⟩)
set_option maxRecDepth 65536 in
set_option maxHeartbeats 40000000 in
theorem con_internalRedirectTo_87 (hw : Hw a0 Z) (G : Ow.Glo Z cz sf) {u0 u1 u2 : Nat} (GS : GlS Z u0 u1 u2) {pa0 : Nat} {pa1 : Nat} {pa2 : Nat} {px0 : Int32} {px1 : Int32} {pk0 : ClassId} {h0 : Heap} (O0 : Old Z n0 h0) (hf0 : Exa Z h0 pa0 "com/example/ply3/ply3/Navigator") (hf1 : Fld Z h0 pa0 "com/example/ply3/ply3/Navigator" "internal" "Z" (.int px0)) (hf2 : Fld Z h0 pa0 "com/example/ply3/ply3/Navigator" "redirect" "Lcom/example/ply3/ply3/Target;" vr) (hf3 : Exa Z h0 pa1 "java/lang/String") (hf4 : Fld Z h0 pa1 "java/lang/String" "coder" "B" (.int 0)) (hf5 : Fld Z h0 pa1 "java/lang/String" "value" "[B" (.ref pa2)) (hf6 : Arv Z h0 pa2 pk0 .byte (1 : Int32) [(.int px1.toInt8.toInt32)] (.int 0)) (hn0 : n0 ≤ pa0) (hk0 : ¬ (px1 < (0 : Int32))) (hk1 : ¬ ((255 : Int32) < px1)) (hk2 : alP px1) :
    Ow.Con l Z EL1 n0 my54 prog_14_method_3_code 2 (Option.none : Option Jvm.ClassFile.FieldType) [] ({ frames := 9, cells := 16, slots := 94, locals := 3087 } : Room) #[(.ref pa0), (.ref pa1)] [pa1] h0 (fun v h S' => (∃ r0 : Nat, ∃ r1 : Nat, v = none ∧ Keep h0 h [pa0] ∧ h0.size ≤ r0 ∧ h0.size ≤ r1 ∧ r1 ≠ r0 ∧ Exa Z h pa0 "com/example/ply3/ply3/Navigator" ∧ Fld Z h pa0 "com/example/ply3/ply3/Navigator" "internal" "Z" (.int 1) ∧ Fld Z h pa0 "com/example/ply3/ply3/Navigator" "redirect" "Lcom/example/ply3/ply3/Target;" (.ref r0) ∧ Exa Z h r0 "com/example/ply3/ply3/Target" ∧ Fld Z h r0 "com/example/ply3/ply3/Target" "name" "Ljava/lang/String;" (.ref pa1) ∧ Fld Z h r0 "com/example/ply3/ply3/Target" "segments" "Ljava/util/List;" (.ref r1) ∧ Exa Z h r1 "java/util/ImmutableCollections$List12" ∧ Fld Z h r1 "java/util/ImmutableCollections$List12" "e0" "Ljava/lang/Object;" (.ref pa1) ∧ Fld Z h r1 "java/util/ImmutableCollections$List12" "e1" "Ljava/lang/Object;" (.ref u2) ∧ S' = [])) := by
 refine Ow.Con.enter (Ls := #[.val (.ref pa0), .val (.ref pa1)]) (plainFor_of_name pn3) O0 (hEW hw) (hSA hw) ?_
 intro p e s m below meth c B
 have z0 := Ow.old_le O0
 have lu0 : (u0 : Nat) < n0 := O0.1 ▸ GS.2.1.lt
 have lu1 : (u1 : Nat) < n0 := O0.1 ▸ GS.2.2.2.2.1.lt
 have lu2 : (u2 : Nat) < n0 := O0.1 ▸ GS.2.2.2.2.2.2.lt
 have lpa0 : (pa0 : Nat) < h0.size := hf0.lt
 have lpa1 : (pa1 : Nat) < h0.size := hf3.lt
 have lpa2 : (pa2 : Nat) < h0.size := hf6.lt
 refine Ow.aloadN (pc' := 1) B e54_0 ?_
 refine Ow.aloadN (pc' := 2) B e54_1 ?_
 refine Ow.Go.old (fun o1 => ?_)
 refine Ow.callStatic (pc' := 5) (W := 1) (k' := 16) (n' := 94) (argsL := [(.ref pa1)]) (rest := [(.ref pa0)]) B e54_2 (w71 hw) (w72 hw) (w39 hw) (w73 hw) (con_parse_55 hw G GS (pa0 := pa1) (pa1 := pa2) (px0 := px1) (pk0 := pk0) o1 hf3 hf4 hf5 hf6 (hk0) (hk1) (hk2)) pd38 ?_
 intro vq2 h3 S4 q2 zh3
 obtain ⟨r5, r6, rfl, Kh3, br5, br6, n7, f8, f9, f10, f11, f12, f13, rfl⟩ := q2
 have lr5 : (r5 : Nat) < h3.size := f8.lt
 have lr6 : (r6 : Nat) < h3.size := f11.lt
 refine Ow.Go.nr (S' := [pa1]) (st' := [(.ref r5), (.ref pa0)]) ?_
 have f14 := hf2.keep Kh3 Ow.nin0
 have f15 := hf0.keep Kh3
 refine Ow.putfield (pc' := 8) (ty := (.object "com/example/ply3/ply3/Target")) B e54_5 (w307 hw) Via.refl f14 f15 (Or.inl (w308 hw)) (w38 hw) (Or.inr ⟨by decide, by decide⟩) ?_
 intro h16 Wh16
 have f17 := hf1.keep Kh3 Ow.nin0
 have Kh16 := Keep.of_wr Wh16
 have zh16 := Kh16.1
 have f18 : Fld Z h16 pa0 "com/example/ply3/ply3/Navigator" "redirect" "Lcom/example/ply3/ply3/Target;" (.ref r5) := f14.same Wh16
 have f19 : Fld Z h16 pa0 "com/example/ply3/ply3/Navigator" "internal" "Z" (.int px0) := f17.other Wh16 (Or.inr (slot_ne (a0 := a0) (C := "com/example/ply3/ply3/Navigator") (t := .boolean) (t' := (.object "com/example/ply3/ply3/Target")) (Or.inl (w50 hw)) (Or.inl (w308 hw)) (by decide) (by decide) (by decide)))
 refine Ow.aloadN (pc' := 9) B e54_8 ?_
 refine Ow.iconst (pc' := 10) (x := 1) B e54_9 ?_
 have f20 := f15.keep Kh16
 refine Ow.putfield (pc' := 13) (ty := .boolean) B e54_10 (w49 hw) Via.refl f19 f20 (Or.inl (w50 hw)) (w38 hw) (Or.inr ⟨by decide, by decide⟩) ?_
 intro h21 Wh21
 have Kh21 := Keep.of_wr Wh21
 have zh21 := Kh21.1
 have f22 : Fld Z h21 pa0 "com/example/ply3/ply3/Navigator" "internal" "Z" (.int 1) := f19.same Wh21
 have f23 : Fld Z h21 pa0 "com/example/ply3/ply3/Navigator" "redirect" "Lcom/example/ply3/ply3/Target;" (.ref r5) := f18.other Wh21 (Or.inr (slot_ne (a0 := a0) (C := "com/example/ply3/ply3/Navigator") (t := (.object "com/example/ply3/ply3/Target")) (t' := .boolean) (Or.inl (w308 hw)) (Or.inl (w50 hw)) (by decide) (by decide) (by decide)))
 have f24 := f20.keep Kh21
 have f25 := f8.keep Kh16
 have f26 := f25.keep Kh21
 have f27 := f9.keep Kh16 (Ow.ninS (by omega) Ow.nin0)
 have f28 := f27.keep Kh21 (Ow.ninS (by omega) Ow.nin0)
 have f29 := f10.keep Kh16 (Ow.ninS (by omega) Ow.nin0)
 have f30 := f29.keep Kh21 (Ow.ninS (by omega) Ow.nin0)
 have f31 := f11.keep Kh16
 have f32 := f31.keep Kh21
 have f33 := f12.keep Kh16 (Ow.ninS (by omega) Ow.nin0)
 have f34 := f33.keep Kh21 (Ow.ninS (by omega) Ow.nin0)
 have f35 := f13.keep Kh16 (Ow.ninS (by omega) Ow.nin0)
 have f36 := f35.keep Kh21 (Ow.ninS (by omega) Ow.nin0)
 exact Ow.retV (S' := []) B e54_13 (⟨r5, r6, rfl, ((((Keep.refl _ [pa0]).trans Kh3 (fun _ q => nomatch q)).trans Kh16 (allS (Or.inl (by simp)) all0)).trans Kh21 (allS (Or.inl (by simp)) all0)), (by omega), (by omega), (by omega), f24, f22, f23, f26, f28, f30, f32, f34, f36, rfl⟩)
set_option maxRecDepth 65536 in
set_option maxHeartbeats 40000000 in
theorem con_internalRedirectTo_88 (hw : Hw a0 Z) (G : Ow.Glo Z cz sf) {u0 u1 u2 : Nat} (GS : GlS Z u0 u1 u2) {pa0 : Nat} {pa1 : Nat} {pa2 : Nat} {px0 : Int32} {px1 : Int32} {px2 : Int32} {pk0 : ClassId} {h0 : Heap} (O0 : Old Z n0 h0) (hf0 : Exa Z h0 pa0 "com/example/ply3/ply3/Navigator") (hf1 : Fld Z h0 pa0 "com/example/ply3/ply3/Navigator" "internal" "Z" (.int px0)) (hf2 : Fld Z h0 pa0 "com/example/ply3/ply3/Navigator" "redirect" "Lcom/example/ply3/ply3/Target;" vr) (hf3 : Exa Z h0 pa1 "java/lang/String") (hf4 : Fld Z h0 pa1 "java/lang/String" "coder" "B" (.int 0)) (hf5 : Fld Z h0 pa1 "java/lang/String" "value" "[B" (.ref pa2)) (hf6 : Arv Z h0 pa2 pk0 .byte (2 : Int32) [(.int px1.toInt8.toInt32), (.int px2.toInt8.toInt32)] (.int 0)) (hn0 : n0 ≤ pa0) (hk0 : ¬ (px1 < (0 : Int32))) (hk1 : ¬ ((255 : Int32) < px1)) (hk2 : alP px1) (hk3 : ¬ (px2 < (0 : Int32))) (hk4 : ¬ ((255 : Int32) < px2)) (hk5 : alP px2) :
    Ow.Con l Z EL1 n0 my54 prog_14_method_3_code 2 (Option.none : Option Jvm.ClassFile.FieldType) [] ({ frames := 9, cells := 16, slots := 94, locals := 3087 } : Room) #[(.ref pa0), (.ref pa1)] [pa1] h0 (fun v h S' => (∃ r0 : Nat, ∃ r1 : Nat, v = none ∧ Keep h0 h [pa0] ∧ h0.size ≤ r0 ∧ h0.size ≤ r1 ∧ r1 ≠ r0 ∧ Exa Z h pa0 "com/example/ply3/ply3/Navigator" ∧ Fld Z h pa0 "com/example/ply3/ply3/Navigator" "internal" "Z" (.int 1) ∧ Fld Z h pa0 "com/example/ply3/ply3/Navigator" "redirect" "Lcom/example/ply3/ply3/Target;" (.ref r0) ∧ Exa Z h r0 "com/example/ply3/ply3/Target" ∧ Fld Z h r0 "com/example/ply3/ply3/Target" "name" "Ljava/lang/String;" (.ref pa1) ∧ Fld Z h r0 "com/example/ply3/ply3/Target" "segments" "Ljava/util/List;" (.ref r1) ∧ Exa Z h r1 "java/util/ImmutableCollections$List12" ∧ Fld Z h r1 "java/util/ImmutableCollections$List12" "e0" "Ljava/lang/Object;" (.ref pa1) ∧ Fld Z h r1 "java/util/ImmutableCollections$List12" "e1" "Ljava/lang/Object;" (.ref u2) ∧ S' = [])) := by
 refine Ow.Con.enter (Ls := #[.val (.ref pa0), .val (.ref pa1)]) (plainFor_of_name pn3) O0 (hEW hw) (hSA hw) ?_
 intro p e s m below meth c B
 have z0 := Ow.old_le O0
 have lu0 : (u0 : Nat) < n0 := O0.1 ▸ GS.2.1.lt
 have lu1 : (u1 : Nat) < n0 := O0.1 ▸ GS.2.2.2.2.1.lt
 have lu2 : (u2 : Nat) < n0 := O0.1 ▸ GS.2.2.2.2.2.2.lt
 have lpa0 : (pa0 : Nat) < h0.size := hf0.lt
 have lpa1 : (pa1 : Nat) < h0.size := hf3.lt
 have lpa2 : (pa2 : Nat) < h0.size := hf6.lt
 refine Ow.aloadN (pc' := 1) B e54_0 ?_
 refine Ow.aloadN (pc' := 2) B e54_1 ?_
 refine Ow.Go.old (fun o1 => ?_)
 refine Ow.callStatic (pc' := 5) (W := 1) (k' := 16) (n' := 94) (argsL := [(.ref pa1)]) (rest := [(.ref pa0)]) B e54_2 (w71 hw) (w72 hw) (w39 hw) (w73 hw) (con_parse_85 hw G GS (pa0 := pa1) (pa1 := pa2) (px0 := px1) (px1 := px2) (pk0 := pk0) o1 hf3 hf4 hf5 hf6 (hk0) (hk1) (hk2) (hk3) (hk4) (hk5)) pd38 ?_
 intro vq2 h3 S4 q2 zh3
 obtain ⟨r5, r6, rfl, Kh3, br5, br6, n7, f8, f9, f10, f11, f12, f13, rfl⟩ := q2
 have lr5 : (r5 : Nat) < h3.size := f8.lt
 have lr6 : (r6 : Nat) < h3.size := f11.lt
 refine Ow.Go.nr (S' := [pa1]) (st' := [(.ref r5), (.ref pa0)]) ?_
 have f14 := hf2.keep Kh3 Ow.nin0
 have f15 := hf0.keep Kh3
 refine Ow.putfield (pc' := 8) (ty := (.object "com/example/ply3/ply3/Target")) B e54_5 (w307 hw) Via.refl f14 f15 (Or.inl (w308 hw)) (w38 hw) (Or.inr ⟨by decide, by decide⟩) ?_
 intro h16 Wh16
 have f17 := hf1.keep Kh3 Ow.nin0
 have Kh16 := Keep.of_wr Wh16
 have zh16 := Kh16.1
 have f18 : Fld Z h16 pa0 "com/example/ply3/ply3/Navigator" "redirect" "Lcom/example/ply3/ply3/Target;" (.ref r5) := f14.same Wh16
 have f19 : Fld Z h16 pa0 "com/example/ply3/ply3/Navigator" "internal" "Z" (.int px0) := f17.other Wh16 (Or.inr (slot_ne (a0 := a0) (C := "com/example/ply3/ply3/Navigator") (t := .boolean) (t' := (.object "com/example/ply3/ply3/Target")) (Or.inl (w50 hw)) (Or.inl (w308 hw)) (by decide) (by decide) (by decide)))
 refine Ow.aloadN (pc' := 9) B e54_8 ?_
 refine Ow.iconst (pc' := 10) (x := 1) B e54_9 ?_
 have f20 := f15.keep Kh16
 refine Ow.putfield (pc' := 13) (ty := .boolean) B e54_10 (w49 hw) Via.refl f19 f20 (Or.inl (w50 hw)) (w38 hw) (Or.inr ⟨by decide, by decide⟩) ?_
 intro h21 Wh21
 have Kh21 := Keep.of_wr Wh21
 have zh21 := Kh21.1
 have f22 : Fld Z h21 pa0 "com/example/ply3/ply3/Navigator" "internal" "Z" (.int 1) := f19.same Wh21
 have f23 : Fld Z h21 pa0 "com/example/ply3/ply3/Navigator" "redirect" "Lcom/example/ply3/ply3/Target;" (.ref r5) := f18.other Wh21 (Or.inr (slot_ne (a0 := a0) (C := "com/example/ply3/ply3/Navigator") (t := (.object "com/example/ply3/ply3/Target")) (t' := .boolean) (Or.inl (w308 hw)) (Or.inl (w50 hw)) (by decide) (by decide) (by decide)))
 have f24 := f20.keep Kh21
 have f25 := f8.keep Kh16
 have f26 := f25.keep Kh21
 have f27 := f9.keep Kh16 (Ow.ninS (by omega) Ow.nin0)
 have f28 := f27.keep Kh21 (Ow.ninS (by omega) Ow.nin0)
 have f29 := f10.keep Kh16 (Ow.ninS (by omega) Ow.nin0)
 have f30 := f29.keep Kh21 (Ow.ninS (by omega) Ow.nin0)
 have f31 := f11.keep Kh16
 have f32 := f31.keep Kh21
 have f33 := f12.keep Kh16 (Ow.ninS (by omega) Ow.nin0)
 have f34 := f33.keep Kh21 (Ow.ninS (by omega) Ow.nin0)
 have f35 := f13.keep Kh16 (Ow.ninS (by omega) Ow.nin0)
 have f36 := f35.keep Kh21 (Ow.ninS (by omega) Ow.nin0)
 exact Ow.retV (S' := []) B e54_13 (⟨r5, r6, rfl, ((((Keep.refl _ [pa0]).trans Kh3 (fun _ q => nomatch q)).trans Kh16 (allS (Or.inl (by simp)) all0)).trans Kh21 (allS (Or.inl (by simp)) all0)), (by omega), (by omega), (by omega), f24, f22, f23, f26, f28, f30, f32, f34, f36, rfl⟩)
set_option maxRecDepth 65536 in
set_option maxHeartbeats 40000000 in
theorem gCall1 (hw : Hw a0 Z) (G : Ow.Glo Z cz sf) {u0 u1 u2 : Nat} (GS : GlS Z u0 u1 u2) {h0 : Heap} (O0 : Old Z n0 h0) {nv sn t : Nat} {kt : ClassId} {cs : List Int32} {vr : Value} {fi : Int32} (E : Exa Z h0 nv "com/example/ply3/ply3/Navigator") (V1 : Fld Z h0 nv "com/example/ply3/ply3/Navigator" "redirect" "Lcom/example/ply3/ply3/Target;" vr) (V2 : Fld Z h0 nv "com/example/ply3/ply3/Navigator" "internal" "Z" (.int fi)) (F : Ow.Chs Z h0 sn t kt cs) (hN : NmP cs) (hb : n0 ≤ nv) (hne1 : sn ≠ nv) (hne2 : t ≠ nv) :
    Ow.Con l Z EL1 n0 my53 method_3_code 3 (Option.none : Option Jvm.ClassFile.FieldType) [] ({ frames := 10, cells := 16, slots := 94, locals := 3100 } : Room) #[(.ref nv), (.int 1), (.ref sn)] [sn] h0 (fun v h S' => ∃ T : Nat, v = none ∧ Keep h0 h [nv] ∧ h0.size ≤ T ∧ Fld Z h nv "com/example/ply3/ply3/Navigator" "redirect" "Lcom/example/ply3/ply3/Target;" (.ref T) ∧ Fld Z h nv "com/example/ply3/ply3/Navigator" "internal" "Z" (.int 1) ∧ Exa Z h T "com/example/ply3/ply3/Target" ∧ Fld Z h T "com/example/ply3/ply3/Target" "name" "Ljava/lang/String;" (.ref sn) ∧ S' = []) := by
 rcases hN with ⟨x, rfl, hx⟩ | ⟨x, y, rfl, hx, hy⟩
 ·refine Ow.Con.enter (Ls := #[.val (.ref nv), .val (.int 1), .val (.ref sn)]) (plainFor_of_name pn2) O0 (hEW hw) (hSA hw) ?_
  intro p e s m below meth c B
  have z0 := Ow.old_le O0
  have lu0 : (u0 : Nat) < n0 := O0.1 ▸ GS.2.1.lt
  have lu1 : (u1 : Nat) < n0 := O0.1 ▸ GS.2.2.2.2.1.lt
  have lu2 : (u2 : Nat) < n0 := O0.1 ▸ GS.2.2.2.2.2.2.lt
  have lnv : (nv : Nat) < h0.size := E.lt
  have lsn : (sn : Nat) < h0.size := F.lt
  have lt : (t : Nat) < h0.size := F.ltt
  obtain ⟨oc, oa⟩ := F.lat (cs := [x]) (Ow.allI (al255 hx) Ow.allI0)
  have oa1 : Arv Z h0 t kt .byte (1 : Int32) [(.int x.toInt8.toInt32)] (.int 0) := oa
  refine Ow.iloadN (pc' := 1) B e7_0 ?_
  refine Ow.ifF (pc' := 4) B e7_1 (by decide) ?_
  refine Ow.aloadN (pc' := 5) B e7_4 ?_
  refine Ow.aloadN (pc' := 6) B e7_5 ?_
  refine Ow.Go.old (fun o1 => ?_)
  refine Ow.callVirtual (pc' := 9) (W := 0) (k' := 16) (n' := 94) (argsL := [(.ref sn)]) (rest := []) (K := "com/example/ply3/ply3/Navigator") B e7_6 (w66 hw) (w67 hw) (w69 hw) (w69 hw) (w68 hw) (w39 hw) (w70 hw) E (con_internalRedirectTo_87 hw G GS (pa0 := nv) (pa1 := sn) (pa2 := t) (px0 := fi) (px1 := x) (pk0 := kt) o1 E V2 V1 F.1 oc F.2.1 oa1 (by omega) ((al0 hx)) ((al255 hx)) (hx)) pd39 ?_
  intro vq2 h3 S4 q2 zh3
  obtain ⟨r5, r6, rfl, Kh3, br5, br6, n7, f8, f9, f10, f11, f12, f13, f14, f15, f16, rfl⟩ := q2
  have lr5 : (r5 : Nat) < h3.size := f11.lt
  have lr6 : (r6 : Nat) < h3.size := f14.lt
  refine Ow.Go.nr (S' := [sn]) (st' := []) ?_
  refine Ow.goto (pc' := 17) B e7_9 ?_
  exact Ow.retV (S' := []) B e7_17 (⟨r5, rfl, ((Keep.refl _ [nv]).trans Kh3 (allS (Or.inl (by simp)) all0)), (by omega), f10, f9, f11, f12, rfl⟩)
 ·refine Ow.Con.enter (Ls := #[.val (.ref nv), .val (.int 1), .val (.ref sn)]) (plainFor_of_name pn2) O0 (hEW hw) (hSA hw) ?_
  intro p e s m below meth c B
  have z0 := Ow.old_le O0
  have lu0 : (u0 : Nat) < n0 := O0.1 ▸ GS.2.1.lt
  have lu1 : (u1 : Nat) < n0 := O0.1 ▸ GS.2.2.2.2.1.lt
  have lu2 : (u2 : Nat) < n0 := O0.1 ▸ GS.2.2.2.2.2.2.lt
  have lnv : (nv : Nat) < h0.size := E.lt
  have lsn : (sn : Nat) < h0.size := F.lt
  have lt : (t : Nat) < h0.size := F.ltt
  obtain ⟨oc, oa⟩ := F.lat (cs := [x, y]) (Ow.allI (al255 hx) (Ow.allI (al255 hy) Ow.allI0))
  have oa1 : Arv Z h0 t kt .byte (2 : Int32) [(.int x.toInt8.toInt32), (.int y.toInt8.toInt32)] (.int 0) := oa
  refine Ow.iloadN (pc' := 1) B e7_0 ?_
  refine Ow.ifF (pc' := 4) B e7_1 (by decide) ?_
  refine Ow.aloadN (pc' := 5) B e7_4 ?_
  refine Ow.aloadN (pc' := 6) B e7_5 ?_
  refine Ow.Go.old (fun o1 => ?_)
  refine Ow.callVirtual (pc' := 9) (W := 0) (k' := 16) (n' := 94) (argsL := [(.ref sn)]) (rest := []) (K := "com/example/ply3/ply3/Navigator") B e7_6 (w66 hw) (w67 hw) (w69 hw) (w69 hw) (w68 hw) (w39 hw) (w70 hw) E (con_internalRedirectTo_88 hw G GS (pa0 := nv) (pa1 := sn) (pa2 := t) (px0 := fi) (px1 := x) (px2 := y) (pk0 := kt) o1 E V2 V1 F.1 oc F.2.1 oa1 (by omega) ((al0 hx)) ((al255 hx)) (hx) ((al0 hy)) ((al255 hy)) (hy)) pd39 ?_
  intro vq2 h3 S4 q2 zh3
  obtain ⟨r5, r6, rfl, Kh3, br5, br6, n7, f8, f9, f10, f11, f12, f13, f14, f15, f16, rfl⟩ := q2
  have lr5 : (r5 : Nat) < h3.size := f11.lt
  have lr6 : (r6 : Nat) < h3.size := f14.lt
  refine Ow.Go.nr (S' := [sn]) (st' := []) ?_
  refine Ow.goto (pc' := 17) B e7_9 ?_
  exact Ow.retV (S' := []) B e7_17 (⟨r5, rfl, ((Keep.refl _ [nv]).trans Kh3 (allS (Or.inl (by simp)) all0)), (by omega), f10, f9, f11, f12, rfl⟩)
theorem gCall (hw : Hw a0 Z) (G : Ow.Glo Z cz sf) {u0 u1 u2 : Nat} (GS : GlS Z u0 u1 u2) {h0 : Heap} (O0 : Old Z n0 h0) {fl : Int32} {nv sn t : Nat} {kt : ClassId} {cs : List Int32} {vr : Value} {fi : Int32} (E : Exa Z h0 nv "com/example/ply3/ply3/Navigator") (V1 : Fld Z h0 nv "com/example/ply3/ply3/Navigator" "redirect" "Lcom/example/ply3/ply3/Target;" vr) (V2 : Fld Z h0 nv "com/example/ply3/ply3/Navigator" "internal" "Z" (.int fi)) (F : Ow.Chs Z h0 sn t kt cs) (hN : NmP cs) (hb : n0 ≤ nv) (hne1 : sn ≠ nv) (hne2 : t ≠ nv) (hfl : fl = 0 ∨ fl = 1) :
    Ow.Con l Z EL1 n0 my53 method_3_code 3 (Option.none : Option Jvm.ClassFile.FieldType) [] ({ frames := 10, cells := 16, slots := 94, locals := 3100 } : Room) #[(.ref nv), (.int fl), (.ref sn)] [sn] h0 (fun v h S' => ∃ T : Nat, v = none ∧ Keep h0 h [nv] ∧ h0.size ≤ T ∧ Fld Z h nv "com/example/ply3/ply3/Navigator" "redirect" "Lcom/example/ply3/ply3/Target;" (.ref T) ∧ Fld Z h nv "com/example/ply3/ply3/Navigator" "internal" "Z" (.int fl) ∧ Exa Z h T "com/example/ply3/ply3/Target" ∧ Fld Z h T "com/example/ply3/ply3/Target" "name" "Ljava/lang/String;" (.ref sn) ∧ S' = []) := by
 rcases hfl with rfl | rfl
 ·exact gCall0 hw G GS O0 E V1 V2 F hN hb hne1 hne2
 ·exact gCall1 hw G GS O0 E V1 V2 F hN hb hne1 hne2
set_option maxRecDepth 65536 in
set_option maxHeartbeats 40000000 in
theorem con_init_89 (hw : Hw a0 Z) (G : Ow.Glo Z cz sf) {u0 u1 u2 : Nat} (GS : GlS Z u0 u1 u2) {pa0 : Nat} {h0 : Heap} (O0 : Old Z n0 h0) :
    Ow.Con l Z EL1 n0 my55 prog_14_method_1_code 1 (Option.none : Option Jvm.ClassFile.FieldType) [] ({ frames := 1, cells := 0, slots := 0, locals := 12 } : Room) #[(.ref pa0)] [] h0 (fun v h S' => (v = none ∧ h = h0 ∧ S' = [])) := by
 refine Ow.Con.enter (Ls := #[.val (.ref pa0)]) (plainFor_of_name pn3) O0 (hEW hw) (hSA hw) ?_
 intro p e s m below meth c B
 have z0 := Ow.old_le O0
 have lu0 : (u0 : Nat) < n0 := O0.1 ▸ GS.2.1.lt
 have lu1 : (u1 : Nat) < n0 := O0.1 ▸ GS.2.2.2.2.1.lt
 have lu2 : (u2 : Nat) < n0 := O0.1 ▸ GS.2.2.2.2.2.2.lt
 refine Ow.aloadN (pc' := 1) B e55_0 ?_
 refine Ow.objInit (pc' := 4) (W := 0) B e55_1 (w43 hw) (w19 hw) (w20 hw) ?_
 exact Ow.retV (S' := []) B e55_4 (⟨rfl, rfl, rfl⟩)
set_option maxRecDepth 65536 in
set_option maxHeartbeats 40000000 in
theorem con_empty_90 (hw : Hw a0 Z) (G : Ow.Glo Z cz sf) {u0 u1 u2 : Nat} (GS : GlS Z u0 u1 u2) {h0 : Heap} (O0 : Old Z n0 h0) :
    Ow.Con l Z EL1 n0 my56 jdk_32_method_1_code 1 (Option.some (Jvm.ClassFile.FieldType.object "java/util/Optional")) [] ({ frames := 0, cells := 0, slots := 0, locals := 0 } : Room) #[] [] h0 (fun v h S' => (v = some (.ref u0) ∧ h = h0 ∧ S' = [])) := by
 refine Ow.Con.enter (Ls := #[.unset]) (plainFor_of_name pn16) O0 (hEW hw) (hSA hw) ?_
 intro p e s m below meth c B
 have z0 := Ow.old_le O0
 have lu0 : (u0 : Nat) < n0 := O0.1 ▸ GS.2.1.lt
 have lu1 : (u1 : Nat) < n0 := O0.1 ▸ GS.2.2.2.2.1.lt
 have lu2 : (u2 : Nat) < n0 := O0.1 ▸ GS.2.2.2.2.2.2.lt
 refine Ow.getstatic (pc' := 3) B e57_0 (w55 hw) Via.refl GS.1 ?_
 refine Ow.astoreN (pc' := 4) (Ls' := #[.val (.ref u0)]) B e57_3 ?_
 refine Ow.aloadN (pc' := 5) B e57_4 ?_
 exact Ow.retA (S' := []) (t := (.object "java/util/Optional")) B e57_5 (⟨rfl, rfl, rfl⟩)
set_option maxRecDepth 65536 in
set_option maxHeartbeats 40000000 in
theorem con_internalRedirect_91 (hw : Hw a0 Z) (G : Ow.Glo Z cz sf) {u0 u1 u2 : Nat} (GS : GlS Z u0 u1 u2) {pa0 : Nat} {h0 : Heap} (O0 : Old Z n0 h0) (hf0 : Fld Z h0 pa0 "com/example/ply3/ply3/Navigator" "internal" "Z" (.int 0)) (hn0 : n0 ≤ pa0) :
    Ow.Con l Z EL1 n0 my57 prog_14_method_6_code 1 (Option.some (Jvm.ClassFile.FieldType.object "java/util/Optional")) [] ({ frames := 1, cells := 0, slots := 0, locals := 12 } : Room) #[(.ref pa0)] [] h0 (fun v h S' => (v = some (.ref u0) ∧ h = h0 ∧ S' = [])) := by
 refine Ow.Con.enter (Ls := #[.val (.ref pa0)]) (plainFor_of_name pn3) O0 (hEW hw) (hSA hw) ?_
 intro p e s m below meth c B
 have z0 := Ow.old_le O0
 have lu0 : (u0 : Nat) < n0 := O0.1 ▸ GS.2.1.lt
 have lu1 : (u1 : Nat) < n0 := O0.1 ▸ GS.2.2.2.2.1.lt
 have lu2 : (u2 : Nat) < n0 := O0.1 ▸ GS.2.2.2.2.2.2.lt
 have lpa0 : (pa0 : Nat) < h0.size := hf0.lt
 refine Ow.aloadN (pc' := 1) B e56_0 ?_
 refine Ow.getfield (pc' := 4) B e56_1 (w49 hw) Via.refl hf0 ?_
 refine Ow.ifT (pc' := 17) B e56_4 (by decide) ?_
 refine Ow.Go.old (fun o1 => ?_)
 refine Ow.callStatic (pc' := 20) (W := 0) (k' := 0) (n' := 0) (argsL := []) (rest := []) B e56_17 (w51 hw) (w52 hw) (w53 hw) (w54 hw) (con_empty_90 hw G GS o1) pd41 ?_
 intro vq2 h3 S4 q2 zh3
 obtain ⟨rfl, rfl, rfl⟩ := q2
 refine Ow.Go.nr (S' := []) (st' := [(.ref u0)]) ?_
 exact Ow.retA (S' := []) (t := (.object "java/util/Optional")) B e56_20 (⟨rfl, rfl, rfl⟩)
set_option maxRecDepth 65536 in
set_option maxHeartbeats 40000000 in
theorem con_orElse_92 (hw : Hw a0 Z) (G : Ow.Glo Z cz sf) {u0 u1 u2 : Nat} (GS : GlS Z u0 u1 u2) {pa0 : Nat} {h0 : Heap} (O0 : Old Z n0 h0) (hf0 : Fld Z h0 pa0 "java/util/Optional" "value" "Ljava/lang/Object;" .null) :
    Ow.Con l Z EL1 n0 my58 jdk_32_method_15_code 2 (Option.some (Jvm.ClassFile.FieldType.object "java/lang/Object")) [] ({ frames := 0, cells := 0, slots := 0, locals := 0 } : Room) #[(.ref pa0), .null] [] h0 (fun v h S' => (v = some .null ∧ h = h0 ∧ S' = [])) := by
 refine Ow.Con.enter (Ls := #[.val (.ref pa0), .val .null]) (plainFor_of_name pn16) O0 (hEW hw) (hSA hw) ?_
 intro p e s m below meth c B
 have z0 := Ow.old_le O0
 have lu0 : (u0 : Nat) < n0 := O0.1 ▸ GS.2.1.lt
 have lu1 : (u1 : Nat) < n0 := O0.1 ▸ GS.2.2.2.2.1.lt
 have lu2 : (u2 : Nat) < n0 := O0.1 ▸ GS.2.2.2.2.2.2.lt
 have lpa0 : (pa0 : Nat) < h0.size := hf0.lt
 refine Ow.aloadN (pc' := 1) B e58_0 ?_
 refine Ow.getfield (pc' := 4) B e58_1 (w61 hw) Via.refl hf0 ?_
 refine Ow.ifnullT (pc' := 14) B e58_4 ?_
 refine Ow.aloadN (pc' := 15) B e58_14 ?_
 exact Ow.retA (S' := []) (t := (.object "java/lang/Object")) B e58_15 (⟨rfl, rfl, rfl⟩)
set_option maxRecDepth 65536 in
set_option maxHeartbeats 40000000 in
theorem con_ofNullable_93 (hw : Hw a0 Z) (G : Ow.Glo Z cz sf) {u0 u1 u2 : Nat} (GS : GlS Z u0 u1 u2) {pa0 : Nat} {h0 : Heap} (O0 : Old Z n0 h0) :
    Ow.Con l Z EL1 n0 my59 jdk_32_method_4_code 1 (Option.some (Jvm.ClassFile.FieldType.object "java/util/Optional")) [] ({ frames := 2, cells := 1, slots := 1, locals := 26 } : Room) #[(.ref pa0)] [] h0 (fun v h S' => (∃ r0 : Nat, v = some (.ref r0) ∧ Keep h0 h [] ∧ h0.size ≤ r0 ∧ Exa Z h r0 "java/util/Optional" ∧ Fld Z h r0 "java/util/Optional" "value" "Ljava/lang/Object;" (.ref pa0) ∧ S' = [])) := by
 refine Ow.Con.enter (Ls := #[.val (.ref pa0)]) (plainFor_of_name pn16) O0 (hEW hw) (hSA hw) ?_
 intro p e s m below meth c B
 have z0 := Ow.old_le O0
 have lu0 : (u0 : Nat) < n0 := O0.1 ▸ GS.2.1.lt
 have lu1 : (u1 : Nat) < n0 := O0.1 ▸ GS.2.2.2.2.1.lt
 have lu2 : (u2 : Nat) < n0 := O0.1 ▸ GS.2.2.2.2.2.2.lt
 refine Ow.aloadN (pc' := 1) B e59_0 ?_
 refine Ow.ifnonnullT (pc' := 10) B e59_1 ?_
 refine Ow.newObj (pc' := 13) (k' := 1) (n' := 1) B e59_10 (w288 hw) (w289 hw) (w53 hw) ?_
 intro h2 a1 ga1 ba1 Kh2 Aa1 Da1
 have zh2 := Kh2.1
 have la1 : (a1 : Nat) < h2.size := Aa1.lt
 have f3 : Fld Z h2 a1 "java/util/Optional" "value" "Ljava/lang/Object;" .null := Da1 (Or.inr (w62 hw)) (ty := (.object "java/lang/Object")) (by decide)
 refine Ow.dup (pc' := 14) B e59_13 ?_
 refine Ow.aloadN (pc' := 15) B e59_14 ?_
 refine Ow.Go.old (fun o4 => ?_)
 refine Ow.callInit (pc' := 18) (W := 1) (k' := 1) (n' := 1) (argsL := [(.ref pa0)]) (rest := [(.ref a1)]) B e59_15 (w291 hw) (w292 hw) (w53 hw) (w294 hw) (con_init_51 hw G GS (pa0 := a1) (pa1 := pa0) o4 Aa1 f3 (by omega)) pd32 ?_
 intro vq5 h6 S7 q5 zh6
 obtain ⟨rfl, Kh6, f8, f9, rfl⟩ := q5
 refine Ow.Go.nr (S' := [a1]) (st' := [(.ref a1)]) ?_
 exact Ow.retA (S' := []) (t := (.object "java/util/Optional")) B e59_18 (⟨a1, rfl, (((Keep.refl _ []).trans Kh2 (fun _ q => nomatch q)).trans Kh6 (allS (Or.inr (by omega)) all0)), (by omega), f8, f9, rfl⟩)
set_option maxRecDepth 65536 in
set_option maxHeartbeats 40000000 in
theorem con_internalRedirect_94 (hw : Hw a0 Z) (G : Ow.Glo Z cz sf) {u0 u1 u2 : Nat} (GS : GlS Z u0 u1 u2) {pa0 : Nat} {pa1 : Nat} {px0 : Int32} {h0 : Heap} (O0 : Old Z n0 h0) (hf0 : Fld Z h0 pa0 "com/example/ply3/ply3/Navigator" "internal" "Z" (.int px0)) (hf1 : Fld Z h0 pa0 "com/example/ply3/ply3/Navigator" "redirect" "Lcom/example/ply3/ply3/Target;" (.ref pa1)) (hn0 : n0 ≤ pa0) :
    Ow.Con l Z EL1 n0 my57 prog_14_method_6_code 1 (Option.some (Jvm.ClassFile.FieldType.object "java/util/Optional")) [] ({ frames := 3, cells := 1, slots := 1, locals := 38 } : Room) #[(.ref pa0)] [] h0 (fun v h S' => (v = some (.ref u0) ∧ h = h0 ∧ px0 = (0 : Int32) ∧ S' = []) ∨ (∃ r0 : Nat, v = some (.ref r0) ∧ Keep h0 h [] ∧ ¬ (px0 = (0 : Int32)) ∧ h0.size ≤ r0 ∧ Exa Z h r0 "java/util/Optional" ∧ Fld Z h r0 "java/util/Optional" "value" "Ljava/lang/Object;" (.ref pa1) ∧ S' = [])) := by
 refine Ow.Con.enter (Ls := #[.val (.ref pa0)]) (plainFor_of_name pn3) O0 (hEW hw) (hSA hw) ?_
 intro p e s m below meth c B
 have z0 := Ow.old_le O0
 have lu0 : (u0 : Nat) < n0 := O0.1 ▸ GS.2.1.lt
 have lu1 : (u1 : Nat) < n0 := O0.1 ▸ GS.2.2.2.2.1.lt
 have lu2 : (u2 : Nat) < n0 := O0.1 ▸ GS.2.2.2.2.2.2.lt
 have lpa0 : (pa0 : Nat) < h0.size := hf0.lt
 refine Ow.aloadN (pc' := 1) B e56_0 ?_
 refine Ow.getfield (pc' := 4) B e56_1 (w49 hw) Via.refl hf0 ?_
 by_cases c1 : px0 = (0 : Int32)
 ·refine Ow.ifT (pc' := 17) B e56_4 (teq c1).1 ?_
  refine Ow.Go.old (fun o2 => ?_)
  refine Ow.callStatic (pc' := 20) (W := 0) (k' := 0) (n' := 0) (argsL := []) (rest := []) B e56_17 (w51 hw) (w52 hw) (w53 hw) (w54 hw) (con_empty_90 hw G GS o2) pd41 ?_
  intro vq3 h4 S5 q3 zh4
  obtain ⟨rfl, rfl, rfl⟩ := q3
  refine Ow.Go.nr (S' := []) (st' := [(.ref u0)]) ?_
  exact Ow.retA (S' := []) (t := (.object "java/util/Optional")) B e56_20 (Or.inl (⟨rfl, rfl, c1, rfl⟩))
 ·refine Ow.ifF (pc' := 7) B e56_4 (feq c1).1 ?_
  refine Ow.aloadN (pc' := 8) B e56_7 ?_
  refine Ow.getfield (pc' := 11) B e56_8 (w307 hw) Via.refl hf1 ?_
  refine Ow.Go.old (fun o6 => ?_)
  refine Ow.callStatic (pc' := 14) (W := 0) (k' := 1) (n' := 1) (argsL := [(.ref pa1)]) (rest := []) B e56_11 (w314 hw) (w315 hw) (w53 hw) (w316 hw) (con_ofNullable_93 hw G GS (pa0 := pa1) o6) pd35 ?_
  intro vq7 h8 S9 q7 zh8
  obtain ⟨r10, rfl, Kh8, br10, f11, f12, rfl⟩ := q7
  have lr10 : (r10 : Nat) < h8.size := f11.lt
  refine Ow.Go.nr (S' := []) (st' := [(.ref r10)]) ?_
  refine Ow.goto (pc' := 20) B e56_14 ?_
  exact Ow.retA (S' := []) (t := (.object "java/util/Optional")) B e56_20 (Or.inr (⟨r10, rfl, ((Keep.refl _ []).trans Kh8 (fun _ q => nomatch q)), c1, (by omega), f11, f12, rfl⟩))
set_option maxRecDepth 65536 in
set_option maxHeartbeats 40000000 in
theorem con_orElse_95 (hw : Hw a0 Z) (G : Ow.Glo Z cz sf) {u0 u1 u2 : Nat} (GS : GlS Z u0 u1 u2) {pa0 : Nat} {pa1 : Nat} {h0 : Heap} (O0 : Old Z n0 h0) (hf0 : Fld Z h0 pa0 "java/util/Optional" "value" "Ljava/lang/Object;" (.ref pa1)) (hn0 : n0 ≤ pa0) :
    Ow.Con l Z EL1 n0 my58 jdk_32_method_15_code 2 (Option.some (Jvm.ClassFile.FieldType.object "java/lang/Object")) [] ({ frames := 0, cells := 0, slots := 0, locals := 0 } : Room) #[(.ref pa0), .null] [] h0 (fun v h S' => (v = some (.ref pa1) ∧ h = h0 ∧ S' = [])) := by
 refine Ow.Con.enter (Ls := #[.val (.ref pa0), .val .null]) (plainFor_of_name pn16) O0 (hEW hw) (hSA hw) ?_
 intro p e s m below meth c B
 have z0 := Ow.old_le O0
 have lu0 : (u0 : Nat) < n0 := O0.1 ▸ GS.2.1.lt
 have lu1 : (u1 : Nat) < n0 := O0.1 ▸ GS.2.2.2.2.1.lt
 have lu2 : (u2 : Nat) < n0 := O0.1 ▸ GS.2.2.2.2.2.2.lt
 have lpa0 : (pa0 : Nat) < h0.size := hf0.lt
 refine Ow.aloadN (pc' := 1) B e58_0 ?_
 refine Ow.getfield (pc' := 4) B e58_1 (w61 hw) Via.refl hf0 ?_
 refine Ow.ifnullF (pc' := 7) B e58_4 ?_
 refine Ow.aloadN (pc' := 8) B e58_7 ?_
 refine Ow.getfield (pc' := 11) B e58_8 (w61 hw) Via.refl hf0 ?_
 refine Ow.goto (pc' := 15) B e58_11 ?_
 exact Ow.retA (S' := []) (t := (.object "java/lang/Object")) B e58_15 (⟨rfl, rfl, rfl⟩)
set_option maxRecDepth 65536 in
set_option maxHeartbeats 40000000 in
theorem con_name_96 (hw : Hw a0 Z) (G : Ow.Glo Z cz sf) {u0 u1 u2 : Nat} (GS : GlS Z u0 u1 u2) {pa0 : Nat} {pa1 : Nat} {h0 : Heap} (O0 : Old Z n0 h0) (hf0 : Fld Z h0 pa0 "com/example/ply3/ply3/Target" "name" "Ljava/lang/String;" (.ref pa1)) (hn0 : n0 ≤ pa0) :
    Ow.Con l Z EL1 n0 my60 prog_31_method_8_code 1 (Option.some (Jvm.ClassFile.FieldType.object "java/lang/String")) [] ({ frames := 0, cells := 0, slots := 0, locals := 0 } : Room) #[(.ref pa0)] [] h0 (fun v h S' => (v = some (.ref pa1) ∧ h = h0 ∧ S' = [])) := by
 refine Ow.Con.enter (Ls := #[.val (.ref pa0)]) (plainFor_of_name pn4) O0 (hEW hw) (hSA hw) ?_
 intro p e s m below meth c B
 have z0 := Ow.old_le O0
 have lu0 : (u0 : Nat) < n0 := O0.1 ▸ GS.2.1.lt
 have lu1 : (u1 : Nat) < n0 := O0.1 ▸ GS.2.2.2.2.1.lt
 have lu2 : (u2 : Nat) < n0 := O0.1 ▸ GS.2.2.2.2.2.2.lt
 have lpa0 : (pa0 : Nat) < h0.size := hf0.lt
 refine Ow.aloadN (pc' := 1) B e60_0 ?_
 refine Ow.getfield (pc' := 4) B e60_1 (w281 hw) Via.refl hf0 ?_
 exact Ow.retA (S' := []) (t := (.object "java/lang/String")) B e60_4 (⟨rfl, rfl, rfl⟩)
set_option maxRecDepth 65536 in
set_option maxHeartbeats 40000000 in
theorem con_equals_97 (hw : Hw a0 Z) (G : Ow.Glo Z cz sf) {u0 u1 u2 : Nat} (GS : GlS Z u0 u1 u2) {pa0 : Nat} {h0 : Heap} (O0 : Old Z n0 h0) :
    Ow.Con l Z EL1 n0 my8 jdk_42_method_66_code 3 (Option.some Jvm.ClassFile.FieldType.boolean) [] ({ frames := 0, cells := 0, slots := 0, locals := 0 } : Room) #[(.ref pa0), (.ref pa0)] [] h0 (fun v h S' => (v = some (.int 1) ∧ h = h0 ∧ S' = [])) := by
 refine Ow.Con.enter (Ls := #[.val (.ref pa0), .val (.ref pa0), .unset]) (plainFor_of_name pn1) O0 (hEW hw) (hSA hw) ?_
 intro p e s m below meth c B
 have z0 := Ow.old_le O0
 have lu0 : (u0 : Nat) < n0 := O0.1 ▸ GS.2.1.lt
 have lu1 : (u1 : Nat) < n0 := O0.1 ▸ GS.2.2.2.2.1.lt
 have lu2 : (u2 : Nat) < n0 := O0.1 ▸ GS.2.2.2.2.2.2.lt
 refine Ow.aloadN (pc' := 1) B e11_0 ?_
 refine Ow.aloadN (pc' := 2) B e11_1 ?_
 refine Ow.acmpR (pc' := 5) (same := true) B e11_2 (decide_eq_true rfl) ?_
 refine Ow.iconst (pc' := 6) (x := 1) B e11_5 ?_
 exact Ow.retI (S' := []) (t := .boolean) B e11_6 (⟨rfl, rfl, rfl⟩)
set_option maxRecDepth 65536 in
set_option maxHeartbeats 40000000 in
theorem lawCon (hw : Hw a0 Z) (G : Ow.Glo Z cz sf) {u0 u1 u2 : Nat} (GS : GlS Z u0 u1 u2) (x0 x1 x2 x3 : Int32) {h0 : Heap} (O0 : Old Z n0 h0)  :
    Ow.Con l Z EL1 n0 x code maxLocals ret tables_1 room_1 #[(.int x0), (.int x1), (.int x2), (.int x3)] [] h0 (fun v _ _ => v = some (.int 1)) := by
 refine Ow.Con.enter (Ls := #[.val (.int x0), .val (.int x1), .val (.int x2), .val (.int x3), .unset, .unset, .unset, .unset, .unset, .unset, .unset, .unset, .unset, .unset, .unset]) (plainFor_of_name pn2) O0 (hEW hw) (hSA hw) ?_
 intro p e s m below meth c B
 have z0 := Ow.old_le O0
 have lu0 : (u0 : Nat) < n0 := O0.1 ▸ GS.2.1.lt
 have lu1 : (u1 : Nat) < n0 := O0.1 ▸ GS.2.2.2.2.1.lt
 have lu2 : (u2 : Nat) < n0 := O0.1 ▸ GS.2.2.2.2.2.2.lt
 refine Ow.iloadN (pc' := 1) B at_0 ?_
 refine Ow.iconst (pc' := 2) (x := 3) B at_1 ?_
 obtain ⟨cnt, hcnt⟩ : ∃ z : Int32, (x0 &&& (3 : Int32)) = z := ⟨_, rfl⟩
 have hcc := and3 x0
 rw [hcnt] at hcc
 refine Ow.iand (pc' := 3) (z := cnt) (hz := hcnt) B at_2 ?_
 refine Ow.istore (pc' := 5) (Ls' := #[.val (.int x0), .val (.int x1), .val (.int x2), .val (.int x3), .val (.int cnt), .unset, .unset, .unset, .unset, .unset, .unset, .unset, .unset, .unset, .unset]) B at_3 ?_
 refine Ow.Go.join (α := { y : Int32 // y = 0 ∨ y = 1 }) (pc1 := 16) (fun _ => #[.val (.int x0), .val (.int x1), .val (.int x2), .val (.int x3), .val (.int cnt), .unset, .unset, .unset, .unset, .unset, .unset, .unset, .unset, .unset, .unset]) (fun b => [.int b.1]) ?_ ?_
 ·intro ⟨b1, hb1⟩
  dsimp only
  refine Ow.istore (pc' := 18) (Ls' := #[.val (.int x0), .val (.int x1), .val (.int x2), .val (.int x3), .val (.int cnt), .val (.int b1), .unset, .unset, .unset, .unset, .unset, .unset, .unset, .unset, .unset]) B at_16 ?_
  refine Ow.Go.join (α := { y : Int32 // y = 0 ∨ y = 1 }) (pc1 := 30) (fun _ => #[.val (.int x0), .val (.int x1), .val (.int x2), .val (.int x3), .val (.int cnt), .val (.int b1), .unset, .unset, .unset, .unset, .unset, .unset, .unset, .unset, .unset]) (fun b => [.int b.1]) ?_ ?_
  ·intro ⟨b2, hb2⟩
   dsimp only
   refine Ow.istore (pc' := 32) (Ls' := #[.val (.int x0), .val (.int x1), .val (.int x2), .val (.int x3), .val (.int cnt), .val (.int b1), .val (.int b2), .unset, .unset, .unset, .unset, .unset, .unset, .unset, .unset]) B at_30 ?_
   refine Ow.Go.join (α := { y : Int32 // y = 0 ∨ y = 1 }) (pc1 := 44) (fun _ => #[.val (.int x0), .val (.int x1), .val (.int x2), .val (.int x3), .val (.int cnt), .val (.int b1), .val (.int b2), .unset, .unset, .unset, .unset, .unset, .unset, .unset, .unset]) (fun b => [.int b.1]) ?_ ?_
   ·intro ⟨b3, hb3⟩
    dsimp only
    refine Ow.istore (pc' := 46) (Ls' := #[.val (.int x0), .val (.int x1), .val (.int x2), .val (.int x3), .val (.int cnt), .val (.int b1), .val (.int b2), .val (.int b3), .unset, .unset, .unset, .unset, .unset, .unset, .unset]) B at_44 ?_
    refine Ow.iloadN (pc' := 47) B at_46 ?_
    refine Ow.Go.old (fun o4 => ?_)
    refine Ow.callStatic (pc' := 50) (W := 0) (k' := 3) (n' := 8) (argsL := [(.int x1)]) (rest := []) B at_47 (w0 hw) (w1 hw) (w2 hw) (w3 hw) (gName hw G GS (x := x1) o4) pd40 ?_
    intro vq5 h6 S7 q5 zh6
    obtain ⟨r8, t9, k10, cs12, rfl, Kh6, br8, f11, hcs12, rfl⟩ := q5
    have lr8 : (r8 : Nat) < h6.size := f11.lt
    have lt9 : (t9 : Nat) < h6.size := f11.ltt
    refine Ow.Go.norm (S' := [r8]) (st' := [(.ref r8)]) (fun _ q => q) rfl ?_
    refine Ow.astore (pc' := 52) (Ls' := #[.val (.int x0), .val (.int x1), .val (.int x2), .val (.int x3), .val (.int cnt), .val (.int b1), .val (.int b2), .val (.int b3), .val (.ref r8), .unset, .unset, .unset, .unset, .unset, .unset]) B at_50 ?_
    refine Ow.iloadN (pc' := 53) B at_52 ?_
    refine Ow.Go.old (fun o13 => ?_)
    refine Ow.callStatic (pc' := 56) (W := 0) (k' := 6) (n' := 16) (argsL := [(.int x2)]) (rest := []) B at_53 (w0 hw) (w1 hw) (w2 hw) (w3 hw) (gName hw G GS (x := x2) o13) pd40 ?_
    intro vq14 h15 S16 q14 zh15
    obtain ⟨r17, t18, k19, cs21, rfl, Kh15, br17, f20, hcs21, rfl⟩ := q14
    have lr17 : (r17 : Nat) < h15.size := f20.lt
    have lt18 : (t18 : Nat) < h15.size := f20.ltt
    refine Ow.Go.norm (S' := [r17, r8]) (st' := [(.ref r17)]) (fun _ q => q) rfl ?_
    refine Ow.astore (pc' := 58) (Ls' := #[.val (.int x0), .val (.int x1), .val (.int x2), .val (.int x3), .val (.int cnt), .val (.int b1), .val (.int b2), .val (.int b3), .val (.ref r8), .val (.ref r17), .unset, .unset, .unset, .unset, .unset]) B at_56 ?_
    refine Ow.iloadN (pc' := 59) B at_58 ?_
    refine Ow.Go.old (fun o22 => ?_)
    refine Ow.callStatic (pc' := 62) (W := 0) (k' := 9) (n' := 24) (argsL := [(.int x3)]) (rest := []) B at_59 (w0 hw) (w1 hw) (w2 hw) (w3 hw) (gName hw G GS (x := x3) o22) pd40 ?_
    intro vq23 h24 S25 q23 zh24
    obtain ⟨r26, t27, k28, cs30, rfl, Kh24, br26, f29, hcs30, rfl⟩ := q23
    have lr26 : (r26 : Nat) < h24.size := f29.lt
    have lt27 : (t27 : Nat) < h24.size := f29.ltt
    refine Ow.Go.norm (S' := [r26, r17, r8]) (st' := [(.ref r26)]) (fun _ q => q) rfl ?_
    refine Ow.astore (pc' := 64) (Ls' := #[.val (.int x0), .val (.int x1), .val (.int x2), .val (.int x3), .val (.int cnt), .val (.int b1), .val (.int b2), .val (.int b3), .val (.ref r8), .val (.ref r17), .val (.ref r26), .unset, .unset, .unset, .unset]) B at_62 ?_
    refine Ow.newObj (pc' := 67) (k' := 10) (n' := 26) B at_64 (w37 hw) (w38 hw) (w39 hw) ?_
    intro h32 a31 ga31 ba31 Kh32 Aa31 Da31
    have zh32 := Kh32.1
    have la31 : (a31 : Nat) < h32.size := Aa31.lt
    have f33 : Fld Z h32 a31 "com/example/ply3/ply3/Navigator" "internal" "Z" (.int 0) := Da31 (Or.inl (w50 hw)) (ty := .boolean) (by decide)
    have f34 : Fld Z h32 a31 "com/example/ply3/ply3/Navigator" "redirect" "Lcom/example/ply3/ply3/Target;" .null := Da31 (Or.inl (w308 hw)) (ty := (.object "com/example/ply3/ply3/Target")) (by decide)
    refine Ow.dup (pc' := 68) B at_67 ?_
    refine Ow.Go.old (fun o35 => ?_)
    refine Ow.callInit (pc' := 71) (W := 1) (k' := 10) (n' := 26) (argsL := []) (rest := [(.ref a31)]) B at_68 (w40 hw) (w41 hw) (w39 hw) (w42 hw) (con_init_89 hw G GS (pa0 := a31) o35) pd25 ?_
    intro vq36 h37 S38 q36 zh37
    obtain ⟨rfl, rfl, rfl⟩ := q36
    refine Ow.Go.nr (S' := [a31, r26, r17, r8]) (st' := [(.ref a31)]) ?_
    refine Ow.astore (pc' := 73) (Ls' := #[.val (.int x0), .val (.int x1), .val (.int x2), .val (.int x3), .val (.int cnt), .val (.int b1), .val (.int b2), .val (.int b3), .val (.ref r8), .val (.ref r17), .val (.ref r26), .val (.ref a31), .unset, .unset, .unset]) B at_71 ?_
    rcases hcc with rfl | rfl | rfl | rfl
    ·refine Ow.iload (pc' := 75) B at_73 ?_
     refine Ow.iconst (pc' := 76) (x := 1) B at_75 ?_
     refine Ow.icmpT (pc' := 88) B at_76 (by decide) ?_
     refine Ow.iload (pc' := 90) B at_88 ?_
     refine Ow.iconst (pc' := 91) (x := 2) B at_90 ?_
     refine Ow.icmpT (pc' := 103) B at_91 (by decide) ?_
     refine Ow.iload (pc' := 105) B at_103 ?_
     refine Ow.iconst (pc' := 106) (x := 3) B at_105 ?_
     refine Ow.icmpT (pc' := 118) B at_106 (by decide) ?_
     refine Ow.iload (pc' := 120) B at_118 ?_
     refine Ow.ifF (pc' := 123) B at_120 (by decide) ?_
     refine Ow.iconst (pc' := 124) (x := 0) B at_123 ?_
     refine Ow.istore (pc' := 126) (Ls' := #[.val (.int x0), .val (.int x1), .val (.int x2), .val (.int x3), .val (.int 0), .val (.int b1), .val (.int b2), .val (.int b3), .val (.ref r8), .val (.ref r17), .val (.ref r26), .val (.ref a31), .val (.int 0), .unset, .unset]) B at_124 ?_
     refine Ow.aconstNull (pc' := 127) B at_126 ?_
     refine Ow.astore (pc' := 129) (Ls' := #[.val (.int x0), .val (.int x1), .val (.int x2), .val (.int x3), .val (.int 0), .val (.int b1), .val (.int b2), .val (.int b3), .val (.ref r8), .val (.ref r17), .val (.ref r26), .val (.ref a31), .val (.int 0), .val .null, .unset]) B at_127 ?_
     refine Ow.goto (pc' := 174) B at_129 ?_
     refine Ow.aload (pc' := 176) B at_174 ?_
     refine Ow.Go.old (fun o39 => ?_)
     refine Ow.callVirtual (pc' := 179) (W := 0) (k' := 10) (n' := 26) (argsL := []) (rest := []) (K := "com/example/ply3/ply3/Navigator") B at_176 (w44 hw) (w45 hw) (w47 hw) (w47 hw) (w46 hw) (w39 hw) (w48 hw) Aa31 (con_internalRedirect_91 hw G GS (pa0 := a31) o39 f33 (by omega)) pd41 ?_
     intro vq40 h41 S42 q40 zh41
     obtain ⟨rfl, rfl, rfl⟩ := q40
     refine Ow.Go.nr (S' := [a31, r26, r17, r8]) (st' := [(.ref u0)]) ?_
     refine Ow.aconstNull (pc' := 180) B at_179 ?_
     refine Ow.Go.old (fun o43 => ?_)
     refine Ow.Go.old (fun o44 => ?_)
     have f45 := Fld.ext o44.2 GS.2.2.1
     refine Ow.Go.old (fun o46 => ?_)
     have f47 := Exa.ext o46.2 GS.2.1
     refine Ow.callVirtual (pc' := 183) (W := 0) (k' := 10) (n' := 26) (argsL := [.null]) (rest := []) (K := "java/util/Optional") B at_180 (w56 hw) (w57 hw) (w59 hw) (w59 hw) (w58 hw) (w53 hw) (w60 hw) f47 (con_orElse_92 hw G GS (pa0 := u0) o43 f45) pd31 ?_
     intro vq48 h49 S50 q48 zh49
     obtain ⟨rfl, rfl, rfl⟩ := q48
     refine Ow.Go.nr (S' := [a31, r26, r17, r8]) (st' := [.null]) ?_
     refine Ow.castNull (pc' := 186) B at_183 ?_
     refine Ow.astore (pc' := 188) (Ls' := #[.val (.int x0), .val (.int x1), .val (.int x2), .val (.int x3), .val (.int 0), .val (.int b1), .val (.int b2), .val (.int b3), .val (.ref r8), .val (.ref r17), .val (.ref r26), .val (.ref a31), .val (.int 0), .val .null, .val .null]) B at_186 ?_
     refine Ow.iload (pc' := 190) B at_188 ?_
     refine Ow.ifF (pc' := 193) B at_190 (by decide) ?_
     refine Ow.aload (pc' := 195) B at_193 ?_
     refine Ow.ifnonnullF (pc' := 198) B at_195 ?_
     refine Ow.iconst (pc' := 199) (x := 1) B at_198 ?_
     refine Ow.goto (pc' := 203) B at_199 ?_
     exact Ow.retI (S' := []) (t := .boolean) B at_203 (rfl)
    ·refine Ow.iload (pc' := 75) B at_73 ?_
     refine Ow.iconst (pc' := 76) (x := 1) B at_75 ?_
     refine Ow.icmpF (pc' := 79) B at_76 (by decide) ?_
     refine Ow.aload (pc' := 81) B at_79 ?_
     refine Ow.iload (pc' := 83) B at_81 ?_
     refine Ow.aload (pc' := 85) B at_83 ?_
     have f51 := f11.keep Kh15 Ow.nin0 Ow.nin0
     have f52 := f51.keep Kh24 Ow.nin0 Ow.nin0
     have f53 := f52.keep Kh32 Ow.nin0 Ow.nin0
     refine Ow.Go.old (fun o54 => ?_)
     refine Ow.callStatic (pc' := 88) (W := 0) (k' := 26) (n' := 120) (argsL := [(.ref a31), (.int b1), (.ref r8)]) (rest := []) B at_85 (w63 hw) (w64 hw) (w2 hw) (w65 hw) (gCall hw G GS (fl := b1) o54 Aa31 f34 f33 f53 hcs12 (by omega) (by omega) (by omega) hb1) pd42 ?_
     intro vq55 h56 S57 q55 zh56
     obtain ⟨r58, rfl, Kh56, br58, f59, f60, f61, f62, rfl⟩ := q55
     have lr58 : (r58 : Nat) < h56.size := f61.lt
     refine Ow.Go.nr (S' := [a31, r26, r17, r8]) (st' := []) ?_
     refine Ow.iload (pc' := 90) B at_88 ?_
     refine Ow.iconst (pc' := 91) (x := 2) B at_90 ?_
     refine Ow.icmpT (pc' := 103) B at_91 (by decide) ?_
     refine Ow.iload (pc' := 105) B at_103 ?_
     refine Ow.iconst (pc' := 106) (x := 3) B at_105 ?_
     refine Ow.icmpT (pc' := 118) B at_106 (by decide) ?_
     refine Ow.iload (pc' := 120) B at_118 ?_
     refine Ow.ifT (pc' := 132) B at_120 (by decide) ?_
     refine Ow.iload (pc' := 134) B at_132 ?_
     refine Ow.iconst (pc' := 135) (x := 1) B at_134 ?_
     refine Ow.icmpF (pc' := 138) B at_135 (by decide) ?_
     refine Ow.iload (pc' := 140) B at_138 ?_
     refine Ow.istore (pc' := 142) (Ls' := #[.val (.int x0), .val (.int x1), .val (.int x2), .val (.int x3), .val (.int 1), .val (.int b1), .val (.int b2), .val (.int b3), .val (.ref r8), .val (.ref r17), .val (.ref r26), .val (.ref a31), .val (.int b1), .unset, .unset]) B at_140 ?_
     refine Ow.aload (pc' := 144) B at_142 ?_
     refine Ow.astore (pc' := 146) (Ls' := #[.val (.int x0), .val (.int x1), .val (.int x2), .val (.int x3), .val (.int 1), .val (.int b1), .val (.int b2), .val (.int b3), .val (.ref r8), .val (.ref r17), .val (.ref r26), .val (.ref a31), .val (.int b1), .val (.ref r8), .unset]) B at_144 ?_
     refine Ow.goto (pc' := 174) B at_146 ?_
     refine Ow.aload (pc' := 176) B at_174 ?_
     refine Ow.Go.old (fun o63 => ?_)
     have f64 := Aa31.keep Kh56
     refine Ow.callVirtual (pc' := 179) (W := 0) (k' := 27) (n' := 121) (argsL := []) (rest := []) (K := "com/example/ply3/ply3/Navigator") B at_176 (w44 hw) (w45 hw) (w47 hw) (w47 hw) (w46 hw) (w39 hw) (w48 hw) f64 (con_internalRedirect_94 hw G GS (pa0 := a31) (pa1 := r58) (px0 := b1) o63 f60 f59 (by omega)) pd41 ?_
     intro vq65 h66 S67 q65 zh66
     rcases q65 with q65 | q65
     ·obtain ⟨rfl, rfl, c68, rfl⟩ := q65
      refine Ow.Go.nr (S' := [a31, r26, r17, r8]) (st' := [(.ref u0)]) ?_
      refine Ow.aconstNull (pc' := 180) B at_179 ?_
      refine Ow.Go.old (fun o69 => ?_)
      refine Ow.Go.old (fun o70 => ?_)
      have f71 := Fld.ext o70.2 GS.2.2.1
      refine Ow.Go.old (fun o72 => ?_)
      have f73 := Exa.ext o72.2 GS.2.1
      refine Ow.callVirtual (pc' := 183) (W := 0) (k' := 27) (n' := 121) (argsL := [.null]) (rest := []) (K := "java/util/Optional") B at_180 (w56 hw) (w57 hw) (w59 hw) (w59 hw) (w58 hw) (w53 hw) (w60 hw) f73 (con_orElse_92 hw G GS (pa0 := u0) o69 f71) pd31 ?_
      intro vq74 h75 S76 q74 zh75
      obtain ⟨rfl, rfl, rfl⟩ := q74
      refine Ow.Go.nr (S' := [a31, r26, r17, r8]) (st' := [.null]) ?_
      refine Ow.castNull (pc' := 186) B at_183 ?_
      refine Ow.astore (pc' := 188) (Ls' := #[.val (.int x0), .val (.int x1), .val (.int x2), .val (.int x3), .val (.int 1), .val (.int b1), .val (.int b2), .val (.int b3), .val (.ref r8), .val (.ref r17), .val (.ref r26), .val (.ref a31), .val (.int b1), .val (.ref r8), .val .null]) B at_186 ?_
      refine Ow.iload (pc' := 190) B at_188 ?_
      refine Ow.ifF (pc' := 193) B at_190 (teq (c68)).2 ?_
      refine Ow.aload (pc' := 195) B at_193 ?_
      refine Ow.ifnonnullF (pc' := 198) B at_195 ?_
      refine Ow.iconst (pc' := 199) (x := 1) B at_198 ?_
      refine Ow.goto (pc' := 203) B at_199 ?_
      exact Ow.retI (S' := []) (t := .boolean) B at_203 (rfl)
     ·obtain ⟨r77, rfl, Kh66, c78, br77, f79, f80, rfl⟩ := q65
      have lr77 : (r77 : Nat) < h66.size := f79.lt
      refine Ow.Go.nr (S' := [a31, r26, r17, r8]) (st' := [(.ref r77)]) ?_
      refine Ow.aconstNull (pc' := 180) B at_179 ?_
      refine Ow.Go.old (fun o81 => ?_)
      refine Ow.callVirtual (pc' := 183) (W := 0) (k' := 27) (n' := 121) (argsL := [.null]) (rest := []) (K := "java/util/Optional") B at_180 (w56 hw) (w57 hw) (w59 hw) (w59 hw) (w58 hw) (w53 hw) (w60 hw) f79 (con_orElse_95 hw G GS (pa0 := r77) (pa1 := r58) o81 f80 (by omega)) pd31 ?_
      intro vq82 h83 S84 q82 zh83
      obtain ⟨rfl, rfl, rfl⟩ := q82
      refine Ow.Go.nr (S' := [a31, r26, r17, r8]) (st' := [(.ref r58)]) ?_
      have f85 := f61.keep Kh66
      refine Ow.checkcast (pc' := 186) B at_183 (w317 hw) (Ins.self f85) ?_
      refine Ow.astore (pc' := 188) (Ls' := #[.val (.int x0), .val (.int x1), .val (.int x2), .val (.int x3), .val (.int 1), .val (.int b1), .val (.int b2), .val (.int b3), .val (.ref r8), .val (.ref r17), .val (.ref r26), .val (.ref a31), .val (.int b1), .val (.ref r8), .val (.ref r58)]) B at_186 ?_
      refine Ow.iload (pc' := 190) B at_188 ?_
      refine Ow.ifT (pc' := 204) B at_190 (feq (c78)).2 ?_
      refine Ow.aload (pc' := 206) B at_204 ?_
      refine Ow.ifnullF (pc' := 209) B at_206 ?_
      refine Ow.aload (pc' := 211) B at_209 ?_
      refine Ow.Go.old (fun o86 => ?_)
      have f87 := f62.keep Kh66 Ow.nin0
      refine Ow.callVirtual (pc' := 214) (W := 0) (k' := 27) (n' := 121) (argsL := []) (rest := []) (K := "com/example/ply3/ply3/Target") B at_211 (w318 hw) (w319 hw) (w321 hw) (w321 hw) (w320 hw) (w76 hw) (w322 hw) f85 (con_name_96 hw G GS (pa0 := r58) (pa1 := r8) o86 f87 (by omega)) pd43 ?_
      intro vq88 h89 S90 q88 zh89
      obtain ⟨rfl, rfl, rfl⟩ := q88
      refine Ow.Go.nr (S' := [a31, r26, r17, r8]) (st' := [(.ref r8)]) ?_
      refine Ow.aload (pc' := 216) B at_214 ?_
      refine Ow.Go.old (fun o91 => ?_)
      have f92 := f53.keep Kh56 (Ow.ninS (by omega) Ow.nin0) (Ow.ninS (by omega) Ow.nin0)
      have f93 := f92.keep Kh66 Ow.nin0 Ow.nin0
      refine Ow.callVirtual (pc' := 219) (W := 0) (k' := 27) (n' := 121) (argsL := [(.ref r8)]) (rest := []) (K := "java/lang/String") B at_216 (w323 hw) (w82 hw) (w84 hw) (w84 hw) (w83 hw) (w6 hw) (w85 hw) (f93).1 (con_equals_97 hw G GS (pa0 := r8) o91) pd7 ?_
      intro vq94 h95 S96 q94 zh95
      obtain ⟨rfl, rfl, rfl⟩ := q94
      refine Ow.Go.nr (S' := [a31, r26, r17, r8]) (st' := [(.int 1)]) ?_
      refine Ow.ifF (pc' := 222) B at_219 (by decide) ?_
      refine Ow.iconst (pc' := 223) (x := 1) B at_222 ?_
      refine Ow.goto (pc' := 227) B at_223 ?_
      exact Ow.retI (S' := []) (t := .boolean) B at_227 (rfl)
    ·refine Ow.iload (pc' := 75) B at_73 ?_
     refine Ow.iconst (pc' := 76) (x := 1) B at_75 ?_
     refine Ow.icmpF (pc' := 79) B at_76 (by decide) ?_
     refine Ow.aload (pc' := 81) B at_79 ?_
     refine Ow.iload (pc' := 83) B at_81 ?_
     refine Ow.aload (pc' := 85) B at_83 ?_
     have f97 := f11.keep Kh15 Ow.nin0 Ow.nin0
     have f98 := f97.keep Kh24 Ow.nin0 Ow.nin0
     have f99 := f98.keep Kh32 Ow.nin0 Ow.nin0
     refine Ow.Go.old (fun o100 => ?_)
     refine Ow.callStatic (pc' := 88) (W := 0) (k' := 26) (n' := 120) (argsL := [(.ref a31), (.int b1), (.ref r8)]) (rest := []) B at_85 (w63 hw) (w64 hw) (w2 hw) (w65 hw) (gCall hw G GS (fl := b1) o100 Aa31 f34 f33 f99 hcs12 (by omega) (by omega) (by omega) hb1) pd42 ?_
     intro vq101 h102 S103 q101 zh102
     obtain ⟨r104, rfl, Kh102, br104, f105, f106, f107, f108, rfl⟩ := q101
     have lr104 : (r104 : Nat) < h102.size := f107.lt
     refine Ow.Go.nr (S' := [a31, r26, r17, r8]) (st' := []) ?_
     refine Ow.iload (pc' := 90) B at_88 ?_
     refine Ow.iconst (pc' := 91) (x := 2) B at_90 ?_
     refine Ow.icmpF (pc' := 94) B at_91 (by decide) ?_
     refine Ow.aload (pc' := 96) B at_94 ?_
     refine Ow.iload (pc' := 98) B at_96 ?_
     refine Ow.aload (pc' := 100) B at_98 ?_
     have f109 := Aa31.keep Kh102
     have f110 := f20.keep Kh24 Ow.nin0 Ow.nin0
     have f111 := f110.keep Kh32 Ow.nin0 Ow.nin0
     have f112 := f111.keep Kh102 (Ow.ninS (by omega) Ow.nin0) (Ow.ninS (by omega) Ow.nin0)
     refine Ow.Go.old (fun o113 => ?_)
     refine Ow.callStatic (pc' := 103) (W := 0) (k' := 42) (n' := 214) (argsL := [(.ref a31), (.int b2), (.ref r17)]) (rest := []) B at_100 (w63 hw) (w64 hw) (w2 hw) (w65 hw) (gCall hw G GS (fl := b2) o113 f109 f105 f106 f112 hcs21 (by omega) (by omega) (by omega) hb2) pd42 ?_
     intro vq114 h115 S116 q114 zh115
     obtain ⟨r117, rfl, Kh115, br117, f118, f119, f120, f121, rfl⟩ := q114
     have lr117 : (r117 : Nat) < h115.size := f120.lt
     refine Ow.Go.nr (S' := [a31, r26, r17, r8]) (st' := []) ?_
     refine Ow.iload (pc' := 105) B at_103 ?_
     refine Ow.iconst (pc' := 106) (x := 3) B at_105 ?_
     refine Ow.icmpT (pc' := 118) B at_106 (by decide) ?_
     refine Ow.iload (pc' := 120) B at_118 ?_
     refine Ow.ifT (pc' := 132) B at_120 (by decide) ?_
     refine Ow.iload (pc' := 134) B at_132 ?_
     refine Ow.iconst (pc' := 135) (x := 1) B at_134 ?_
     refine Ow.icmpT (pc' := 149) B at_135 (by decide) ?_
     refine Ow.iload (pc' := 151) B at_149 ?_
     refine Ow.iconst (pc' := 152) (x := 2) B at_151 ?_
     refine Ow.icmpF (pc' := 155) B at_152 (by decide) ?_
     refine Ow.iload (pc' := 157) B at_155 ?_
     refine Ow.istore (pc' := 159) (Ls' := #[.val (.int x0), .val (.int x1), .val (.int x2), .val (.int x3), .val (.int 2), .val (.int b1), .val (.int b2), .val (.int b3), .val (.ref r8), .val (.ref r17), .val (.ref r26), .val (.ref a31), .val (.int b2), .unset, .unset]) B at_157 ?_
     refine Ow.aload (pc' := 161) B at_159 ?_
     refine Ow.astore (pc' := 163) (Ls' := #[.val (.int x0), .val (.int x1), .val (.int x2), .val (.int x3), .val (.int 2), .val (.int b1), .val (.int b2), .val (.int b3), .val (.ref r8), .val (.ref r17), .val (.ref r26), .val (.ref a31), .val (.int b2), .val (.ref r17), .unset]) B at_161 ?_
     refine Ow.goto (pc' := 174) B at_163 ?_
     refine Ow.aload (pc' := 176) B at_174 ?_
     refine Ow.Go.old (fun o122 => ?_)
     have f123 := f109.keep Kh115
     refine Ow.callVirtual (pc' := 179) (W := 0) (k' := 43) (n' := 215) (argsL := []) (rest := []) (K := "com/example/ply3/ply3/Navigator") B at_176 (w44 hw) (w45 hw) (w47 hw) (w47 hw) (w46 hw) (w39 hw) (w48 hw) f123 (con_internalRedirect_94 hw G GS (pa0 := a31) (pa1 := r117) (px0 := b2) o122 f119 f118 (by omega)) pd41 ?_
     intro vq124 h125 S126 q124 zh125
     rcases q124 with q124 | q124
     ·obtain ⟨rfl, rfl, c127, rfl⟩ := q124
      refine Ow.Go.nr (S' := [a31, r26, r17, r8]) (st' := [(.ref u0)]) ?_
      refine Ow.aconstNull (pc' := 180) B at_179 ?_
      refine Ow.Go.old (fun o128 => ?_)
      refine Ow.Go.old (fun o129 => ?_)
      have f130 := Fld.ext o129.2 GS.2.2.1
      refine Ow.Go.old (fun o131 => ?_)
      have f132 := Exa.ext o131.2 GS.2.1
      refine Ow.callVirtual (pc' := 183) (W := 0) (k' := 43) (n' := 215) (argsL := [.null]) (rest := []) (K := "java/util/Optional") B at_180 (w56 hw) (w57 hw) (w59 hw) (w59 hw) (w58 hw) (w53 hw) (w60 hw) f132 (con_orElse_92 hw G GS (pa0 := u0) o128 f130) pd31 ?_
      intro vq133 h134 S135 q133 zh134
      obtain ⟨rfl, rfl, rfl⟩ := q133
      refine Ow.Go.nr (S' := [a31, r26, r17, r8]) (st' := [.null]) ?_
      refine Ow.castNull (pc' := 186) B at_183 ?_
      refine Ow.astore (pc' := 188) (Ls' := #[.val (.int x0), .val (.int x1), .val (.int x2), .val (.int x3), .val (.int 2), .val (.int b1), .val (.int b2), .val (.int b3), .val (.ref r8), .val (.ref r17), .val (.ref r26), .val (.ref a31), .val (.int b2), .val (.ref r17), .val .null]) B at_186 ?_
      refine Ow.iload (pc' := 190) B at_188 ?_
      refine Ow.ifF (pc' := 193) B at_190 (teq (c127)).2 ?_
      refine Ow.aload (pc' := 195) B at_193 ?_
      refine Ow.ifnonnullF (pc' := 198) B at_195 ?_
      refine Ow.iconst (pc' := 199) (x := 1) B at_198 ?_
      refine Ow.goto (pc' := 203) B at_199 ?_
      exact Ow.retI (S' := []) (t := .boolean) B at_203 (rfl)
     ·obtain ⟨r136, rfl, Kh125, c137, br136, f138, f139, rfl⟩ := q124
      have lr136 : (r136 : Nat) < h125.size := f138.lt
      refine Ow.Go.nr (S' := [a31, r26, r17, r8]) (st' := [(.ref r136)]) ?_
      refine Ow.aconstNull (pc' := 180) B at_179 ?_
      refine Ow.Go.old (fun o140 => ?_)
      refine Ow.callVirtual (pc' := 183) (W := 0) (k' := 43) (n' := 215) (argsL := [.null]) (rest := []) (K := "java/util/Optional") B at_180 (w56 hw) (w57 hw) (w59 hw) (w59 hw) (w58 hw) (w53 hw) (w60 hw) f138 (con_orElse_95 hw G GS (pa0 := r136) (pa1 := r117) o140 f139 (by omega)) pd31 ?_
      intro vq141 h142 S143 q141 zh142
      obtain ⟨rfl, rfl, rfl⟩ := q141
      refine Ow.Go.nr (S' := [a31, r26, r17, r8]) (st' := [(.ref r117)]) ?_
      have f144 := f120.keep Kh125
      refine Ow.checkcast (pc' := 186) B at_183 (w317 hw) (Ins.self f144) ?_
      refine Ow.astore (pc' := 188) (Ls' := #[.val (.int x0), .val (.int x1), .val (.int x2), .val (.int x3), .val (.int 2), .val (.int b1), .val (.int b2), .val (.int b3), .val (.ref r8), .val (.ref r17), .val (.ref r26), .val (.ref a31), .val (.int b2), .val (.ref r17), .val (.ref r117)]) B at_186 ?_
      refine Ow.iload (pc' := 190) B at_188 ?_
      refine Ow.ifT (pc' := 204) B at_190 (feq (c137)).2 ?_
      refine Ow.aload (pc' := 206) B at_204 ?_
      refine Ow.ifnullF (pc' := 209) B at_206 ?_
      refine Ow.aload (pc' := 211) B at_209 ?_
      refine Ow.Go.old (fun o145 => ?_)
      have f146 := f121.keep Kh125 Ow.nin0
      refine Ow.callVirtual (pc' := 214) (W := 0) (k' := 43) (n' := 215) (argsL := []) (rest := []) (K := "com/example/ply3/ply3/Target") B at_211 (w318 hw) (w319 hw) (w321 hw) (w321 hw) (w320 hw) (w76 hw) (w322 hw) f144 (con_name_96 hw G GS (pa0 := r117) (pa1 := r17) o145 f146 (by omega)) pd43 ?_
      intro vq147 h148 S149 q147 zh148
      obtain ⟨rfl, rfl, rfl⟩ := q147
      refine Ow.Go.nr (S' := [a31, r26, r17, r8]) (st' := [(.ref r17)]) ?_
      refine Ow.aload (pc' := 216) B at_214 ?_
      refine Ow.Go.old (fun o150 => ?_)
      have f151 := f112.keep Kh115 (Ow.ninS (by omega) Ow.nin0) (Ow.ninS (by omega) Ow.nin0)
      have f152 := f151.keep Kh125 Ow.nin0 Ow.nin0
      refine Ow.callVirtual (pc' := 219) (W := 0) (k' := 43) (n' := 215) (argsL := [(.ref r17)]) (rest := []) (K := "java/lang/String") B at_216 (w323 hw) (w82 hw) (w84 hw) (w84 hw) (w83 hw) (w6 hw) (w85 hw) (f152).1 (con_equals_97 hw G GS (pa0 := r17) o150) pd7 ?_
      intro vq153 h154 S155 q153 zh154
      obtain ⟨rfl, rfl, rfl⟩ := q153
      refine Ow.Go.nr (S' := [a31, r26, r17, r8]) (st' := [(.int 1)]) ?_
      refine Ow.ifF (pc' := 222) B at_219 (by decide) ?_
      refine Ow.iconst (pc' := 223) (x := 1) B at_222 ?_
      refine Ow.goto (pc' := 227) B at_223 ?_
      exact Ow.retI (S' := []) (t := .boolean) B at_227 (rfl)
    ·refine Ow.iload (pc' := 75) B at_73 ?_
     refine Ow.iconst (pc' := 76) (x := 1) B at_75 ?_
     refine Ow.icmpF (pc' := 79) B at_76 (by decide) ?_
     refine Ow.aload (pc' := 81) B at_79 ?_
     refine Ow.iload (pc' := 83) B at_81 ?_
     refine Ow.aload (pc' := 85) B at_83 ?_
     have f156 := f11.keep Kh15 Ow.nin0 Ow.nin0
     have f157 := f156.keep Kh24 Ow.nin0 Ow.nin0
     have f158 := f157.keep Kh32 Ow.nin0 Ow.nin0
     refine Ow.Go.old (fun o159 => ?_)
     refine Ow.callStatic (pc' := 88) (W := 0) (k' := 26) (n' := 120) (argsL := [(.ref a31), (.int b1), (.ref r8)]) (rest := []) B at_85 (w63 hw) (w64 hw) (w2 hw) (w65 hw) (gCall hw G GS (fl := b1) o159 Aa31 f34 f33 f158 hcs12 (by omega) (by omega) (by omega) hb1) pd42 ?_
     intro vq160 h161 S162 q160 zh161
     obtain ⟨r163, rfl, Kh161, br163, f164, f165, f166, f167, rfl⟩ := q160
     have lr163 : (r163 : Nat) < h161.size := f166.lt
     refine Ow.Go.nr (S' := [a31, r26, r17, r8]) (st' := []) ?_
     refine Ow.iload (pc' := 90) B at_88 ?_
     refine Ow.iconst (pc' := 91) (x := 2) B at_90 ?_
     refine Ow.icmpF (pc' := 94) B at_91 (by decide) ?_
     refine Ow.aload (pc' := 96) B at_94 ?_
     refine Ow.iload (pc' := 98) B at_96 ?_
     refine Ow.aload (pc' := 100) B at_98 ?_
     have f168 := Aa31.keep Kh161
     have f169 := f20.keep Kh24 Ow.nin0 Ow.nin0
     have f170 := f169.keep Kh32 Ow.nin0 Ow.nin0
     have f171 := f170.keep Kh161 (Ow.ninS (by omega) Ow.nin0) (Ow.ninS (by omega) Ow.nin0)
     refine Ow.Go.old (fun o172 => ?_)
     refine Ow.callStatic (pc' := 103) (W := 0) (k' := 42) (n' := 214) (argsL := [(.ref a31), (.int b2), (.ref r17)]) (rest := []) B at_100 (w63 hw) (w64 hw) (w2 hw) (w65 hw) (gCall hw G GS (fl := b2) o172 f168 f164 f165 f171 hcs21 (by omega) (by omega) (by omega) hb2) pd42 ?_
     intro vq173 h174 S175 q173 zh174
     obtain ⟨r176, rfl, Kh174, br176, f177, f178, f179, f180, rfl⟩ := q173
     have lr176 : (r176 : Nat) < h174.size := f179.lt
     refine Ow.Go.nr (S' := [a31, r26, r17, r8]) (st' := []) ?_
     refine Ow.iload (pc' := 105) B at_103 ?_
     refine Ow.iconst (pc' := 106) (x := 3) B at_105 ?_
     refine Ow.icmpF (pc' := 109) B at_106 (by decide) ?_
     refine Ow.aload (pc' := 111) B at_109 ?_
     refine Ow.iload (pc' := 113) B at_111 ?_
     refine Ow.aload (pc' := 115) B at_113 ?_
     have f181 := f168.keep Kh174
     have f182 := f29.keep Kh32 Ow.nin0 Ow.nin0
     have f183 := f182.keep Kh161 (Ow.ninS (by omega) Ow.nin0) (Ow.ninS (by omega) Ow.nin0)
     have f184 := f183.keep Kh174 (Ow.ninS (by omega) Ow.nin0) (Ow.ninS (by omega) Ow.nin0)
     refine Ow.Go.old (fun o185 => ?_)
     refine Ow.callStatic (pc' := 118) (W := 0) (k' := 58) (n' := 308) (argsL := [(.ref a31), (.int b3), (.ref r26)]) (rest := []) B at_115 (w63 hw) (w64 hw) (w2 hw) (w65 hw) (gCall hw G GS (fl := b3) o185 f181 f177 f178 f184 hcs30 (by omega) (by omega) (by omega) hb3) pd42 ?_
     intro vq186 h187 S188 q186 zh187
     obtain ⟨r189, rfl, Kh187, br189, f190, f191, f192, f193, rfl⟩ := q186
     have lr189 : (r189 : Nat) < h187.size := f192.lt
     refine Ow.Go.nr (S' := [a31, r26, r17, r8]) (st' := []) ?_
     refine Ow.iload (pc' := 120) B at_118 ?_
     refine Ow.ifT (pc' := 132) B at_120 (by decide) ?_
     refine Ow.iload (pc' := 134) B at_132 ?_
     refine Ow.iconst (pc' := 135) (x := 1) B at_134 ?_
     refine Ow.icmpT (pc' := 149) B at_135 (by decide) ?_
     refine Ow.iload (pc' := 151) B at_149 ?_
     refine Ow.iconst (pc' := 152) (x := 2) B at_151 ?_
     refine Ow.icmpT (pc' := 166) B at_152 (by decide) ?_
     refine Ow.iload (pc' := 168) B at_166 ?_
     refine Ow.istore (pc' := 170) (Ls' := #[.val (.int x0), .val (.int x1), .val (.int x2), .val (.int x3), .val (.int 3), .val (.int b1), .val (.int b2), .val (.int b3), .val (.ref r8), .val (.ref r17), .val (.ref r26), .val (.ref a31), .val (.int b3), .unset, .unset]) B at_168 ?_
     refine Ow.aload (pc' := 172) B at_170 ?_
     refine Ow.astore (pc' := 174) (Ls' := #[.val (.int x0), .val (.int x1), .val (.int x2), .val (.int x3), .val (.int 3), .val (.int b1), .val (.int b2), .val (.int b3), .val (.ref r8), .val (.ref r17), .val (.ref r26), .val (.ref a31), .val (.int b3), .val (.ref r26), .unset]) B at_172 ?_
     refine Ow.aload (pc' := 176) B at_174 ?_
     refine Ow.Go.old (fun o194 => ?_)
     have f195 := f181.keep Kh187
     refine Ow.callVirtual (pc' := 179) (W := 0) (k' := 59) (n' := 309) (argsL := []) (rest := []) (K := "com/example/ply3/ply3/Navigator") B at_176 (w44 hw) (w45 hw) (w47 hw) (w47 hw) (w46 hw) (w39 hw) (w48 hw) f195 (con_internalRedirect_94 hw G GS (pa0 := a31) (pa1 := r189) (px0 := b3) o194 f191 f190 (by omega)) pd41 ?_
     intro vq196 h197 S198 q196 zh197
     rcases q196 with q196 | q196
     ·obtain ⟨rfl, rfl, c199, rfl⟩ := q196
      refine Ow.Go.nr (S' := [a31, r26, r17, r8]) (st' := [(.ref u0)]) ?_
      refine Ow.aconstNull (pc' := 180) B at_179 ?_
      refine Ow.Go.old (fun o200 => ?_)
      refine Ow.Go.old (fun o201 => ?_)
      have f202 := Fld.ext o201.2 GS.2.2.1
      refine Ow.Go.old (fun o203 => ?_)
      have f204 := Exa.ext o203.2 GS.2.1
      refine Ow.callVirtual (pc' := 183) (W := 0) (k' := 59) (n' := 309) (argsL := [.null]) (rest := []) (K := "java/util/Optional") B at_180 (w56 hw) (w57 hw) (w59 hw) (w59 hw) (w58 hw) (w53 hw) (w60 hw) f204 (con_orElse_92 hw G GS (pa0 := u0) o200 f202) pd31 ?_
      intro vq205 h206 S207 q205 zh206
      obtain ⟨rfl, rfl, rfl⟩ := q205
      refine Ow.Go.nr (S' := [a31, r26, r17, r8]) (st' := [.null]) ?_
      refine Ow.castNull (pc' := 186) B at_183 ?_
      refine Ow.astore (pc' := 188) (Ls' := #[.val (.int x0), .val (.int x1), .val (.int x2), .val (.int x3), .val (.int 3), .val (.int b1), .val (.int b2), .val (.int b3), .val (.ref r8), .val (.ref r17), .val (.ref r26), .val (.ref a31), .val (.int b3), .val (.ref r26), .val .null]) B at_186 ?_
      refine Ow.iload (pc' := 190) B at_188 ?_
      refine Ow.ifF (pc' := 193) B at_190 (teq (c199)).2 ?_
      refine Ow.aload (pc' := 195) B at_193 ?_
      refine Ow.ifnonnullF (pc' := 198) B at_195 ?_
      refine Ow.iconst (pc' := 199) (x := 1) B at_198 ?_
      refine Ow.goto (pc' := 203) B at_199 ?_
      exact Ow.retI (S' := []) (t := .boolean) B at_203 (rfl)
     ·obtain ⟨r208, rfl, Kh197, c209, br208, f210, f211, rfl⟩ := q196
      have lr208 : (r208 : Nat) < h197.size := f210.lt
      refine Ow.Go.nr (S' := [a31, r26, r17, r8]) (st' := [(.ref r208)]) ?_
      refine Ow.aconstNull (pc' := 180) B at_179 ?_
      refine Ow.Go.old (fun o212 => ?_)
      refine Ow.callVirtual (pc' := 183) (W := 0) (k' := 59) (n' := 309) (argsL := [.null]) (rest := []) (K := "java/util/Optional") B at_180 (w56 hw) (w57 hw) (w59 hw) (w59 hw) (w58 hw) (w53 hw) (w60 hw) f210 (con_orElse_95 hw G GS (pa0 := r208) (pa1 := r189) o212 f211 (by omega)) pd31 ?_
      intro vq213 h214 S215 q213 zh214
      obtain ⟨rfl, rfl, rfl⟩ := q213
      refine Ow.Go.nr (S' := [a31, r26, r17, r8]) (st' := [(.ref r189)]) ?_
      have f216 := f192.keep Kh197
      refine Ow.checkcast (pc' := 186) B at_183 (w317 hw) (Ins.self f216) ?_
      refine Ow.astore (pc' := 188) (Ls' := #[.val (.int x0), .val (.int x1), .val (.int x2), .val (.int x3), .val (.int 3), .val (.int b1), .val (.int b2), .val (.int b3), .val (.ref r8), .val (.ref r17), .val (.ref r26), .val (.ref a31), .val (.int b3), .val (.ref r26), .val (.ref r189)]) B at_186 ?_
      refine Ow.iload (pc' := 190) B at_188 ?_
      refine Ow.ifT (pc' := 204) B at_190 (feq (c209)).2 ?_
      refine Ow.aload (pc' := 206) B at_204 ?_
      refine Ow.ifnullF (pc' := 209) B at_206 ?_
      refine Ow.aload (pc' := 211) B at_209 ?_
      refine Ow.Go.old (fun o217 => ?_)
      have f218 := f193.keep Kh197 Ow.nin0
      refine Ow.callVirtual (pc' := 214) (W := 0) (k' := 59) (n' := 309) (argsL := []) (rest := []) (K := "com/example/ply3/ply3/Target") B at_211 (w318 hw) (w319 hw) (w321 hw) (w321 hw) (w320 hw) (w76 hw) (w322 hw) f216 (con_name_96 hw G GS (pa0 := r189) (pa1 := r26) o217 f218 (by omega)) pd43 ?_
      intro vq219 h220 S221 q219 zh220
      obtain ⟨rfl, rfl, rfl⟩ := q219
      refine Ow.Go.nr (S' := [a31, r26, r17, r8]) (st' := [(.ref r26)]) ?_
      refine Ow.aload (pc' := 216) B at_214 ?_
      refine Ow.Go.old (fun o222 => ?_)
      have f223 := f184.keep Kh187 (Ow.ninS (by omega) Ow.nin0) (Ow.ninS (by omega) Ow.nin0)
      have f224 := f223.keep Kh197 Ow.nin0 Ow.nin0
      refine Ow.callVirtual (pc' := 219) (W := 0) (k' := 59) (n' := 309) (argsL := [(.ref r26)]) (rest := []) (K := "java/lang/String") B at_216 (w323 hw) (w82 hw) (w84 hw) (w84 hw) (w83 hw) (w6 hw) (w85 hw) (f224).1 (con_equals_97 hw G GS (pa0 := r26) o222) pd7 ?_
      intro vq225 h226 S227 q225 zh226
      obtain ⟨rfl, rfl, rfl⟩ := q225
      refine Ow.Go.nr (S' := [a31, r26, r17, r8]) (st' := [(.int 1)]) ?_
      refine Ow.ifF (pc' := 222) B at_219 (by decide) ?_
      refine Ow.iconst (pc' := 223) (x := 1) B at_222 ?_
      refine Ow.goto (pc' := 227) B at_223 ?_
      exact Ow.retI (S' := []) (t := .boolean) B at_227 (rfl)
   ·intro J228
    refine Ow.iloadN (pc' := 33) B at_32 ?_
    refine Ow.bipush (pc' := 35) (x := 16) B at_33 ?_
    refine Ow.iand (pc' := 36) (z := (x0 &&& (16 : Int32))) B at_35 ?_
    by_cases c229 : (x0 &&& (16 : Int32)) = (0 : Int32)
    ·refine Ow.ifT (pc' := 43) B at_36 (teq c229).1 ?_
     refine Ow.iconst (pc' := 44) (x := 0) B at_43 ?_
     exact J228 ⟨(0 : Int32), Or.inl rfl⟩
    ·refine Ow.ifF (pc' := 39) B at_36 (feq c229).1 ?_
     refine Ow.iconst (pc' := 40) (x := 1) B at_39 ?_
     refine Ow.goto (pc' := 44) B at_40 ?_
     exact J228 ⟨(1 : Int32), Or.inr rfl⟩
  ·intro J230
   refine Ow.iloadN (pc' := 19) B at_18 ?_
   refine Ow.bipush (pc' := 21) (x := 8) B at_19 ?_
   refine Ow.iand (pc' := 22) (z := (x0 &&& (8 : Int32))) B at_21 ?_
   by_cases c231 : (x0 &&& (8 : Int32)) = (0 : Int32)
   ·refine Ow.ifT (pc' := 29) B at_22 (teq c231).1 ?_
    refine Ow.iconst (pc' := 30) (x := 0) B at_29 ?_
    exact J230 ⟨(0 : Int32), Or.inl rfl⟩
   ·refine Ow.ifF (pc' := 25) B at_22 (feq c231).1 ?_
    refine Ow.iconst (pc' := 26) (x := 1) B at_25 ?_
    refine Ow.goto (pc' := 30) B at_26 ?_
    exact J230 ⟨(1 : Int32), Or.inr rfl⟩
 ·intro J232
  refine Ow.iloadN (pc' := 6) B at_5 ?_
  refine Ow.iconst (pc' := 7) (x := 4) B at_6 ?_
  refine Ow.iand (pc' := 8) (z := (x0 &&& (4 : Int32))) B at_7 ?_
  by_cases c233 : (x0 &&& (4 : Int32)) = (0 : Int32)
  ·refine Ow.ifT (pc' := 15) B at_8 (teq c233).1 ?_
   refine Ow.iconst (pc' := 16) (x := 0) B at_15 ?_
   exact J232 ⟨(0 : Int32), Or.inl rfl⟩
  ·refine Ow.ifF (pc' := 11) B at_8 (feq c233).1 ?_
   refine Ow.iconst (pc' := 12) (x := 1) B at_11 ?_
   refine Ow.goto (pc' := 16) B at_12 ?_
   exact J232 ⟨(1 : Int32), Or.inr rfl⟩
set_option maxRecDepth 65536 in
set_option maxHeartbeats 40000000 in
theorem comes_1 {Post : Tables → Env → Array Value → State → Outcome → State → Prop} (hpost : ∀ tb e args s v u, (limb_1_1.after args s (.returned v) u = true ∧ limb_1_2.after args s (.returned v) u = true ∧ True) → ReturnedEndW s (.returned v) u (Jvm.fieldLocs frame_1_writes args s ++ Jvm.arrayLocs frame_1_arrays args s ++ Jvm.staticLocs frame_1_statics s) 72 2240 → Post tb e args s (.returned v) u) :
    ArmFor flags0 classFile x code maxLocals ret World_1 tables_1 room_1 Calls_1 rest_1 Pre_1 Post := by
  intro l hfl _ _ p e ha hc hk s m args below hf hA hF happ hP
  obtain ⟨hcalls, hrest, hpre⟩ := hP
  obtain ⟨-, -, -, hnamed, -, -, -, hat⟩ := (Spec.applies_iff hf).mp happ
  obtain ⟨hg, hn⟩ := and_e (Cond.before_iff.mp (show (Jvm.Cond.and given_1 narrow_1).before args s = true from hpre))
  obtain ⟨g0, hg⟩ := and_e hg
  obtain ⟨w0, w1, w2, w3, rfl⟩ : ∃ w0 w1 w2 w3 : Value, args = #[w0, w1, w2, w3] := by
    have hs : args.size = 4 := by simpa [Cond.value, given_1] using g0
    obtain ⟨L⟩ := args
    match L, hs with
    | [w0, w1, w2, w3], _ => exact ⟨w0, w1, w2, w3, rfl⟩
  have hw := fun d (hd : d ∈ tables_1) => atoms_spec (ws := Jvm.Cond.code x code maxLocals ret :: tables_1) hat d (List.mem_cons_of_mem _ hd)
  have hsets := (atoms_of jdkStatics_1 (by rw [← rest_1_c_eq]; exact hrest)).1
  obtain ⟨g1, hg⟩ := and_e hg
  obtain ⟨i0, e0⟩ := is_v g1
  obtain rfl : w0 = (.int i0) := Option.some.inj e0
  obtain ⟨g2, hg⟩ := and_e hg
  obtain ⟨i1, e1⟩ := is_v g2
  obtain rfl : w1 = (.int i1) := Option.some.inj e1
  obtain ⟨g3, hg⟩ := and_e hg
  obtain ⟨i2, e2⟩ := is_v g3
  obtain rfl : w2 = (.int i2) := Option.some.inj e2
  have g4 := hg
  obtain ⟨i3, e3⟩ := is_v g4
  obtain rfl : w3 = (.int i3) := Option.some.inj e3
  obtain ⟨cz, ecz⟩ := is_v (Cond.before_iff.mp (hsets _ (List.mem_of_getElem? (i := 1) rfl)))
  have hcz : cz ≠ 0 := gotF (Cond.eq_ints ecz (Term.int_eval (0))) (not_v (Cond.before_iff.mp (hsets _ (List.mem_of_getElem? (i := 2) rfl))))
  obtain ⟨sf, esf, rsf⟩ := isR_v (Cond.before_iff.mp (hsets _ (List.mem_of_getElem? (i := 8) rfl)))
  have G : Ow.Glo s cz sf := ⟨Sta.start ecz (Or.inl (hsets _ (List.mem_of_getElem? (i := 0) rfl))), hcz, Sta.start esf (Or.inl (hsets _ (List.mem_of_getElem? (i := 7) rfl))), rsf⟩
  have hCH : CHv s EL1 s.vm s.heap := CHv.start (hEW hw) (fun q hq => hcalls.1 q (by simp only [List.mem_cons, List.not_mem_nil, or_false] at hq; rcases hq with rfl | rfl <;> simp [consts_1])) (hsets _ (List.mem_of_getElem? (i := 2) rfl)) (w26 hw) (w5 hw)
  obtain ⟨u0, eu0⟩ := exa_v (Cond.before_iff.mp (hsets _ (List.mem_of_getElem? (i := 11) rfl)))
  obtain ⟨u1, eu1⟩ := exa_v (Cond.before_iff.mp (hsets _ (List.mem_of_getElem? (i := 20) rfl)))
  obtain ⟨u2, eu2⟩ := exa_v (Cond.before_iff.mp (hsets _ (List.mem_of_getElem? (i := 24) rfl)))
  have GS : GlS s u0 u1 u2 := ⟨Sta.start eu0 (Or.inl (hsets _ (List.mem_of_getElem? (i := 10) rfl))), Exa.start eu0 (Cond.before_iff.mp (hsets _ (List.mem_of_getElem? (i := 11) rfl))), Fld.start (by have q := null_v (Cond.before_iff.mp (hsets _ (List.mem_of_getElem? (i := 12) rfl))); rw [fld_at eu0] at q; exact q), Sta.start eu1 (Or.inr ⟨(w201 hw), (hsets _ (List.mem_of_getElem? (i := 15) rfl))⟩), Exa.start eu1 (Cond.before_iff.mp (hsets _ (List.mem_of_getElem? (i := 20) rfl))), Sta.start eu2 (Or.inl (hsets _ (List.mem_of_getElem? (i := 23) rfl))), Exa.start eu2 (Cond.before_iff.mp (hsets _ (List.mem_of_getElem? (i := 24) rfl)))⟩
  obtain ⟨n, o, h1, h2, h3, v, L, S', rfl, ⟨rfl, N, -, -⟩, -, hq⟩ := lawCon hw G GS i0 i1 i2 i3 (Old.start s) p e ha hc hk s m _ below hf ((Spec.applies_iff_loose hf).mp happ).1 ⟨rfl, State.Warmed39.refl s, rfl, hCH, Ow.SafeL.nil⟩ trivial
  refine ⟨n, _, h1, h2, h3, hpost _ _ _ _ _ _ ⟨Cond.after_iff.mpr rfl, Cond.after_iff.mpr (eq_i res_at (Term.int_eval (1)) rfl), trivial⟩ ⟨hq.1, hq.2.1, hq.2.2.1, (hq.2.2.2.sift fun y hy => Or.inr (N y hy)).mono (by decide) (by decide)⟩⟩
theorem main_1_1 : Claimed_1_1 := comes_1 fun _ _ _ _ _ _ h hF => ⟨h.1, hF⟩
theorem main_1_2 : Claimed_1_2 := comes_1 fun _ _ _ _ _ _ h hF => ⟨h.2.1, hF⟩
end Jvm.Pilot.@@N@@
namespace Jvm.Pilot.@@N@@
open Jvm Jvm.ClassFile Sem Op Lib Jvm.Free Jvm.Stand Jvm.Pilot.@@N@@.Jvm.D
/-! MADE BY PROGRAM (witnessworld.py) out of the Statement's table words and the real class files: 41 classes; the members and pool entries that the words name. The judged class is class 1, her method 1. -/
namespace start1
open Jvm.ClassFile
def u (s : String) : CpInfo := .utf8 (stringToUtf16 s)
/-- a pool by its gaps: so many unusable entries, then the entry; so many at the end -/
def gap : Nat → List CpInfo → List CpInfo
  | 0, r => r
  | n + 1, r => .unusable :: gap n r
def poolList (es : List (Nat × CpInfo)) (last : Nat) : List CpInfo := es.foldr (fun e r => gap e.1 (e.2 :: r)) (gap last [])
def pool (es : List (Nat × CpInfo)) (last : Nat) : Array CpInfo := ⟨poolList es last⟩
def fileOf (pool : Array CpInfo) (this : Nat) (attrs : Array Attribute := #[]) (ms : Array MethodInfo := #[]) (fl : Nat := 33) (sup : Nat := 0) (ifs : Array Nat := #[]) (fds : Array FieldInfo := #[]) : ClassFile where
  minorVersion := 0
  majorVersion := 65
  constantPool := pool
  accessFlags := fl
  thisClass := this
  superClass := sup
  interfaces := ifs
  fields := fds
  methods := ms
  attributes := attrs
def plain (name : String) (sup : Option ClassId) : Class where
  name := name
  kind := .ordinary
  loader := none
  accessFlags := 33
  super := sup
  interfaces := #[]
  cf := none
  fields := #[]
  methods := #[]
  instanceTypes := #[]
  staticTypes := #[]
  resolved := #[]
  callSites := []
  init := .initialized
  statics := none
  mirror := none

def pool0 : Array CpInfo := pool [(5, u "<init>"), (0, u "()V"), (1, .class_ 10), (1, u "java/lang/Object")] 113

def k0c0 : Code := { maxStack := 0, maxLocals := 1, code := object_method_1_code, exceptionTable := #[], attributes := #[] }
def k0m0 : Method := { name := "<init>", desc := "()V", sig := { parameters := [], returnType := none }, accessFlags := 1, code := some k0c0 }
/-- java/lang/Object -/
def k0 : Class := { plain "java/lang/Object" none with
  accessFlags := 33
  interfaces := #[]
  cf := some (fileOf pool0 8 #[] #[{ accessFlags := 1, nameIndex := 5, descriptorIndex := 6, attributes := #[] }] 33 0 #[] #[])
  fields := #[]
  methods := #[k0m0]
  instanceTypes := #[]
  staticTypes := #[]
  resolved := Array.replicate 124 none
  statics := none }

def pool1 : Array CpInfo := pool [(2, .class_ 4), (0, .nameAndType 5 6), (0, u "java/lang/Object"), (0, u "<init>"), (0, u "()V"), (0, .methodref 8 9), (0, .class_ 10), (0, .nameAndType 11 12), (0, u "com/example/ply3/ply3/NavigatorInternalRedirectPinLaw"), (0, u "name"), (0, u "(I)Ljava/lang/String;"), (0, .class_ 14), (0, u "com/example/ply3/ply3/Navigator"), (0, .methodref 13 3), (0, .methodref 8 17), (0, .nameAndType 18 19), (0, u "call"), (0, u "(Lcom/example/ply3/ply3/Navigator;ZLjava/lang/String;)V"), (0, .methodref 13 21), (0, .nameAndType 22 23), (0, u "internalRedirect"), (0, u "()Ljava/util/Optional;"), (0, .methodref 25 26), (0, .class_ 27), (0, .nameAndType 28 29), (0, u "java/util/Optional"), (0, u "orElse"), (0, u "(Ljava/lang/Object;)Ljava/lang/Object;"), (0, .class_ 31), (0, u "com/example/ply3/ply3/Target"), (0, .methodref 30 33), (0, .nameAndType 11 34), (0, u "()Ljava/lang/String;"), (0, .methodref 36 37), (0, .class_ 38), (0, .nameAndType 39 40), (0, u "java/lang/String"), (0, u "equals"), (0, u "(Ljava/lang/Object;)Z"), (0, .methodref 13 42), (0, .nameAndType 43 44), (0, u "internalRedirectTo"), (0, u "(Ljava/lang/String;)V"), (0, .methodref 13 46), (0, .nameAndType 47 44), (0, u "redirectTo"), (0, .methodref 8 49), (0, .nameAndType 50 51), (0, u "ch"), (0, u "(I)C"), (0, .methodref 36 53), (0, .nameAndType 5 54), (0, u "([C)V"), (2, u "law"), (0, u "(IIII)Z")] 3

def k1m0 : Method := { name := "<init>", desc := "()V", sig := { parameters := [], returnType := none }, accessFlags := 1, code := none }
def k1c1 : Code := { maxStack := 3, maxLocals := 15, code := code, exceptionTable := #[], attributes := #[] }
def k1m1 : Method := { name := "law", desc := "(IIII)Z", sig := { parameters := [.int, .int, .int, .int], returnType := some .boolean }, accessFlags := 9, code := some k1c1 }
def k1c2 : Code := { maxStack := 2, maxLocals := 3, code := method_3_code, exceptionTable := #[], attributes := #[] }
def k1m2 : Method := { name := "call", desc := "(Lcom/example/ply3/ply3/Navigator;ZLjava/lang/String;)V", sig := { parameters := [(.object "com/example/ply3/ply3/Navigator"), .boolean, (.object "java/lang/String")], returnType := none }, accessFlags := 10, code := some k1c2 }
def k1c3 : Code := { maxStack := 3, maxLocals := 2, code := method_4_code, exceptionTable := #[], attributes := #[] }
def k1m3 : Method := { name := "ch", desc := "(I)C", sig := { parameters := [.int], returnType := some .char }, accessFlags := 10, code := some k1c3 }
def k1c4 : Code := { maxStack := 7, maxLocals := 1, code := method_5_code, exceptionTable := #[], attributes := #[] }
def k1m4 : Method := { name := "name", desc := "(I)Ljava/lang/String;", sig := { parameters := [.int], returnType := some (.object "java/lang/String") }, accessFlags := 10, code := some k1c4 }
/-- com/example/ply3/ply3/NavigatorInternalRedirectPinLaw -/
def k1 : Class := { plain "com/example/ply3/ply3/NavigatorInternalRedirectPinLaw" (some 0) with
  accessFlags := 49
  interfaces := #[]
  cf := some (fileOf pool1 8 #[] #[{ accessFlags := 1, nameIndex := 5, descriptorIndex := 6, attributes := #[] }, { accessFlags := 9, nameIndex := 57, descriptorIndex := 58, attributes := #[] }, { accessFlags := 10, nameIndex := 18, descriptorIndex := 19, attributes := #[] }, { accessFlags := 10, nameIndex := 50, descriptorIndex := 51, attributes := #[] }, { accessFlags := 10, nameIndex := 11, descriptorIndex := 12, attributes := #[] }] 49 2 #[] #[])
  fields := #[]
  methods := #[k1m0, k1m1, k1m2, k1m3, k1m4]
  instanceTypes := #[]
  staticTypes := #[]
  resolved := Array.replicate 62 none
  statics := none }

def pool2 : Array CpInfo := pool [(1, .class_ 2), (0, u "java/io/Serializable"), (0, .class_ 4), (0, u "java/lang/Object")] 2

/-- java/io/Serializable -/
def k2 : Class := { plain "java/io/Serializable" (some 0) with
  accessFlags := 1537
  interfaces := #[]
  cf := some (fileOf pool2 1 #[] #[] 1537 3 #[] #[])
  fields := #[]
  methods := #[]
  instanceTypes := #[]
  staticTypes := #[]
  resolved := Array.replicate 7 none
  statics := none }

def pool3 : Array CpInfo := pool [(1, .class_ 2), (0, u "java/lang/Comparable"), (0, .class_ 4), (0, u "java/lang/Object")] 7

/-- java/lang/Comparable -/
def k3 : Class := { plain "java/lang/Comparable" (some 0) with
  accessFlags := 1537
  interfaces := #[]
  cf := some (fileOf pool3 1 #[] #[] 1537 3 #[] #[])
  fields := #[]
  methods := #[]
  instanceTypes := #[]
  staticTypes := #[]
  resolved := Array.replicate 12 none
  statics := none }

def pool4 : Array CpInfo := pool [(2, .class_ 4), (1, u "java/lang/CharSequence"), (42, .class_ 48), (0, u "java/lang/CharSequence$1CodePointIterator"), (10, .class_ 60), (0, u "java/lang/CharSequence$1CharIterator"), (5, .class_ 67), (0, u "java/lang/Object")] 63

/-- java/lang/CharSequence -/
def k4 : Class := { plain "java/lang/CharSequence" (some 0) with
  accessFlags := 1537
  interfaces := #[]
  cf := some (fileOf pool4 2 #[.nestMembers #[47, 59]] #[] 1537 66 #[] #[])
  fields := #[]
  methods := #[]
  instanceTypes := #[]
  staticTypes := #[]
  resolved := Array.replicate 131 none
  statics := none }

def pool5 : Array CpInfo := pool [(1, .class_ 2), (0, u "java/lang/constant/Constable"), (0, .class_ 4), (0, u "java/lang/Object")] 6

/-- java/lang/constant/Constable -/
def k5 : Class := { plain "java/lang/constant/Constable" (some 0) with
  accessFlags := 1537
  interfaces := #[]
  cf := some (fileOf pool5 1 #[] #[] 1537 3 #[] #[])
  fields := #[]
  methods := #[]
  instanceTypes := #[]
  staticTypes := #[]
  resolved := Array.replicate 11 none
  statics := none }

def pool6 : Array CpInfo := pool [(1, .class_ 2), (0, u "java/lang/constant/ConstantDesc"), (0, .class_ 4), (0, u "java/lang/Object")] 32

/-- java/lang/constant/ConstantDesc -/
def k6 : Class := { plain "java/lang/constant/ConstantDesc" (some 0) with
  accessFlags := 1537
  interfaces := #[]
  cf := some (fileOf pool6 1 #[] #[] 1537 3 #[] #[])
  fields := #[]
  methods := #[]
  instanceTypes := #[]
  staticTypes := #[]
  resolved := Array.replicate 37 none
  statics := none }

def pool7 : Array CpInfo := pool [(1, .methodref 2 3), (0, .class_ 4), (0, .nameAndType 5 6), (0, u "java/lang/Object"), (0, u "<init>"), (0, u "()V"), (2, .fieldref 10 11), (0, .class_ 12), (0, .nameAndType 13 14), (0, u "java/lang/String"), (0, u "value"), (0, u "[B"), (0, .fieldref 10 16), (0, .nameAndType 17 18), (0, u "coder"), (0, u "B"), (2, u "hash"), (0, u "I"), (2, u "hashIsZero"), (0, u "Z"), (0, .methodref 10 28), (0, .nameAndType 5 29), (0, u "([CIILjava/lang/Void;)V"), (8, .fieldref 10 39), (0, .nameAndType 40 26), (0, u "COMPACT_STRINGS"), (1, .class_ 44), (1, u "java/lang/StringUTF16"), (0, u "compress"), (1, .methodref 42 48), (0, .nameAndType 49 50), (0, u "coderFromArrayLen"), (0, u "([BI)B"), (56, .class_ 109), (1, u "java/lang/StringLatin1"), (32, u "()Z"), (34, .methodref 42 178), (0, .nameAndType 45 179), (0, u "([CII)[B"), (154, u "()I"), (0, .methodref 10 336), (0, .nameAndType 17 337), (0, u "()B"), (25, u "([BI)C"), (12, u "([BI[BII)I"), (14, u "(II)V"), (35, u "(I)C"), (64, .methodref 10 493), (0, .nameAndType 494 142), (0, u "isLatin1"), (0, .methodref 107 496), (0, .nameAndType 497 363), (0, u "charAt"), (3, u "checkIndex"), (3, .methodref 10 506), (0, .nameAndType 507 334), (0, u "length"), (5, u "checkFromToIndex"), (7, .methodref 10 522), (0, .nameAndType 523 524), (0, u "checkBoundsBeginEnd"), (0, u "(III)V"), (16, .methodref 107 542), (0, .nameAndType 543 544), (0, u "equals"), (0, u "([B[B)Z"), (14, .class_ 561), (1, u "jdk/internal/util/ArraysSupport"), (0, u "mismatch"), (10, u "(Ljava/lang/Object;)Z"), (1, .class_ 576), (0, u "java/lang/CharSequence"), (1, .nameAndType 497 427), (20, u "CASE_INSENSITIVE_ORDER"), (0, u "Ljava/util/Comparator;"), (6, .methodref 559 608), (0, .nameAndType 562 376), (15, .methodref 10 625), (0, .nameAndType 626 627), (0, u "startsWith"), (0, u "(Ljava/lang/String;I)Z"), (5, .methodref 10 634), (0, .nameAndType 635 636), (0, u "indexOf"), (0, u "(II)I"), (0, .methodref 107 638), (0, .nameAndType 635 639), (0, u "([BIII)I"), (16, .methodref 10 578), (26, u "substring"), (0, u "(II)Ljava/lang/String;"), (7, u "isEmpty"), (64, .methodref 10 758), (0, .nameAndType 759 760), (0, u "split"), (0, u "(Ljava/lang/String;IZ)[Ljava/lang/String;"), (0, .string 762), (0, u ".$|()[{^?*+\\"), (0, .methodref 10 764), (0, .nameAndType 635 765), (0, u "(I)I"), (0, .integer 55296), (1, .methodref 10 769), (0, .nameAndType 759 770), (0, u "(CIZ)[Ljava/lang/String;"), (6, .class_ 778), (0, u "java/util/ArrayList"), (0, .methodref 777 3), (230, u "([C)V"), (42, .fieldref 1054 1055), (0, .class_ 1056), (0, .nameAndType 1057 1058), (0, u "jdk/internal/util/Preconditions"), (0, u "SIOOBE_FORMATTER"), (0, u "Ljava/util/function/BiFunction;"), (0, .methodref 1054 1060), (0, .nameAndType 501 1061), (0, u "(IILjava/util/function/BiFunction;)I"), (0, .methodref 1054 1063), (0, .nameAndType 513 1064), (0, u "(IIILjava/util/function/BiFunction;)I"), (36, u "serialPersistentFields"), (0, u "[Ljava/io/ObjectStreamField;"), (0, .class_ 1104), (0, u "java/lang/String$CaseInsensitiveComparator"), (1, .class_ 1107), (0, u "java/io/Serializable"), (0, .class_ 1109), (0, u "java/lang/Comparable"), (0, .class_ 1111), (0, u "java/lang/constant/Constable"), (0, .class_ 1113), (0, u "java/lang/constant/ConstantDesc"), (2, u "serialVersionUID"), (0, u "J"), (3, u "REPL"), (0, u "C"), (2, u "LATIN1"), (1, u "UTF16"), (129, u "(Ljava/lang/String;)Z"), (14, u "endsWith"), (34, u "(Ljava/lang/String;I)[Ljava/lang/String;")] 143

def k7m0 : Method := { name := "<init>", desc := "()V", sig := { parameters := [], returnType := none }, accessFlags := 1, code := none }
def k7c1 : Code := { maxStack := 5, maxLocals := 2, code := jdk_42_method_3_code, exceptionTable := #[], attributes := #[] }
def k7m1 : Method := { name := "<init>", desc := "([C)V", sig := { parameters := [(.array .char)], returnType := none }, accessFlags := 1, code := some k7c1 }
def k7c2 : Code := { maxStack := 2, maxLocals := 1, code := jdk_42_method_54_code, exceptionTable := #[], attributes := #[] }
def k7m2 : Method := { name := "length", desc := "()I", sig := { parameters := [], returnType := some .int }, accessFlags := 1, code := some k7c2 }
def k7c3 : Code := { maxStack := 1, maxLocals := 1, code := jdk_42_method_55_code, exceptionTable := #[], attributes := #[] }
def k7m3 : Method := { name := "isEmpty", desc := "()Z", sig := { parameters := [], returnType := some .boolean }, accessFlags := 1, code := some k7c3 }
def k7c4 : Code := { maxStack := 2, maxLocals := 2, code := jdk_42_method_56_code, exceptionTable := #[], attributes := #[] }
def k7m4 : Method := { name := "charAt", desc := "(I)C", sig := { parameters := [.int], returnType := some .char }, accessFlags := 1, code := some k7c4 }
def k7c5 : Code := { maxStack := 2, maxLocals := 3, code := jdk_42_method_66_code, exceptionTable := #[], attributes := #[] }
def k7m5 : Method := { name := "equals", desc := "(Ljava/lang/Object;)Z", sig := { parameters := [(.object "java/lang/Object")], returnType := some .boolean }, accessFlags := 1, code := some k7c5 }
def k7c6 : Code := { maxStack := 5, maxLocals := 8, code := jdk_42_method_75_code, exceptionTable := #[], attributes := #[] }
def k7m6 : Method := { name := "startsWith", desc := "(Ljava/lang/String;I)Z", sig := { parameters := [(.object "java/lang/String"), .int], returnType := some .boolean }, accessFlags := 1, code := some k7c6 }
def k7c7 : Code := { maxStack := 3, maxLocals := 2, code := jdk_42_method_76_code, exceptionTable := #[], attributes := #[] }
def k7m7 : Method := { name := "startsWith", desc := "(Ljava/lang/String;)Z", sig := { parameters := [(.object "java/lang/String")], returnType := some .boolean }, accessFlags := 1, code := some k7c7 }
def k7c8 : Code := { maxStack := 4, maxLocals := 2, code := jdk_42_method_77_code, exceptionTable := #[], attributes := #[] }
def k7m8 : Method := { name := "endsWith", desc := "(Ljava/lang/String;)Z", sig := { parameters := [(.object "java/lang/String")], returnType := some .boolean }, accessFlags := 1, code := some k7c8 }
def k7c9 : Code := { maxStack := 3, maxLocals := 2, code := jdk_42_method_79_code, exceptionTable := #[], attributes := #[] }
def k7m9 : Method := { name := "indexOf", desc := "(I)I", sig := { parameters := [.int], returnType := some .int }, accessFlags := 1, code := some k7c9 }
def k7c10 : Code := { maxStack := 4, maxLocals := 3, code := jdk_42_method_80_code, exceptionTable := #[], attributes := #[] }
def k7m10 : Method := { name := "indexOf", desc := "(II)I", sig := { parameters := [.int, .int], returnType := some .int }, accessFlags := 1, code := some k7c10 }
def k7c11 : Code := { maxStack := 3, maxLocals := 5, code := jdk_42_method_92_code, exceptionTable := #[], attributes := #[] }
def k7m11 : Method := { name := "substring", desc := "(II)Ljava/lang/String;", sig := { parameters := [.int, .int], returnType := some (.object "java/lang/String") }, accessFlags := 1, code := some k7c11 }
def k7c12 : Code := { maxStack := 4, maxLocals := 3, code := jdk_42_method_101_code, exceptionTable := #[], attributes := #[] }
def k7m12 : Method := { name := "split", desc := "(Ljava/lang/String;I)[Ljava/lang/String;", sig := { parameters := [(.object "java/lang/String"), .int], returnType := some (.array (.object "java/lang/String")) }, accessFlags := 1, code := some k7c12 }
def k7c13 : Code := { maxStack := 4, maxLocals := 6, code := jdk_42_method_103_code, exceptionTable := #[], attributes := #[] }
def k7m13 : Method := { name := "split", desc := "(Ljava/lang/String;IZ)[Ljava/lang/String;", sig := { parameters := [(.object "java/lang/String"), .int, .boolean], returnType := some (.array (.object "java/lang/String")) }, accessFlags := 2, code := some k7c13 }
def k7c14 : Code := { maxStack := 4, maxLocals := 12, code := jdk_42_method_104_code, exceptionTable := #[], attributes := #[] }
def k7m14 : Method := { name := "split", desc := "(CIZ)[Ljava/lang/String;", sig := { parameters := [.char, .int, .boolean], returnType := some (.array (.object "java/lang/String")) }, accessFlags := 2, code := some k7c14 }
def k7c15 : Code := { maxStack := 4, maxLocals := 6, code := jdk_42_method_149_code, exceptionTable := #[], attributes := #[] }
def k7m15 : Method := { name := "<init>", desc := "([CIILjava/lang/Void;)V", sig := { parameters := [(.array .char), .int, .int, (.object "java/lang/Void")], returnType := none }, accessFlags := 2, code := some k7c15 }
def k7c16 : Code := { maxStack := 1, maxLocals := 1, code := jdk_42_method_152_code, exceptionTable := #[], attributes := #[] }
def k7m16 : Method := { name := "coder", desc := "()B", sig := { parameters := [], returnType := some .byte }, accessFlags := 0, code := some k7c16 }
def k7c17 : Code := { maxStack := 1, maxLocals := 1, code := jdk_42_method_154_code, exceptionTable := #[], attributes := #[] }
def k7m17 : Method := { name := "isLatin1", desc := "()Z", sig := { parameters := [], returnType := some .boolean }, accessFlags := 0, code := some k7c17 }
def k7c18 : Code := { maxStack := 3, maxLocals := 2, code := jdk_42_method_155_code, exceptionTable := #[], attributes := #[] }
def k7m18 : Method := { name := "checkIndex", desc := "(II)V", sig := { parameters := [.int, .int], returnType := none }, accessFlags := 8, code := some k7c18 }
def k7c19 : Code := { maxStack := 4, maxLocals := 3, code := jdk_42_method_158_code, exceptionTable := #[], attributes := #[] }
def k7m19 : Method := { name := "checkBoundsBeginEnd", desc := "(III)V", sig := { parameters := [.int, .int, .int], returnType := none }, accessFlags := 8, code := some k7c19 }
/-- java/lang/String -/
def k7 : Class := { plain "java/lang/String" (some 0) with
  accessFlags := 49
  interfaces := #[2, 3, 4, 5, 6]
  cf := some (fileOf pool7 10 #[.nestMembers #[1103]] #[{ accessFlags := 1, nameIndex := 5, descriptorIndex := 6, attributes := #[] }, { accessFlags := 1, nameIndex := 5, descriptorIndex := 1010, attributes := #[] }, { accessFlags := 1, nameIndex := 507, descriptorIndex := 334, attributes := #[] }, { accessFlags := 1, nameIndex := 692, descriptorIndex := 142, attributes := #[] }, { accessFlags := 1, nameIndex := 497, descriptorIndex := 427, attributes := #[] }, { accessFlags := 1, nameIndex := 543, descriptorIndex := 573, attributes := #[] }, { accessFlags := 1, nameIndex := 626, descriptorIndex := 627, attributes := #[] }, { accessFlags := 1, nameIndex := 626, descriptorIndex := 1257, attributes := #[] }, { accessFlags := 1, nameIndex := 1272, descriptorIndex := 1257, attributes := #[] }, { accessFlags := 1, nameIndex := 635, descriptorIndex := 765, attributes := #[] }, { accessFlags := 1, nameIndex := 635, descriptorIndex := 636, attributes := #[] }, { accessFlags := 1, nameIndex := 683, descriptorIndex := 684, attributes := #[] }, { accessFlags := 1, nameIndex := 759, descriptorIndex := 1307, attributes := #[] }, { accessFlags := 2, nameIndex := 759, descriptorIndex := 760, attributes := #[] }, { accessFlags := 2, nameIndex := 759, descriptorIndex := 770, attributes := #[] }, { accessFlags := 2, nameIndex := 5, descriptorIndex := 29, attributes := #[] }, { accessFlags := 0, nameIndex := 17, descriptorIndex := 337, attributes := #[] }, { accessFlags := 0, nameIndex := 494, descriptorIndex := 142, attributes := #[] }, { accessFlags := 8, nameIndex := 501, descriptorIndex := 391, attributes := #[] }, { accessFlags := 8, nameIndex := 523, descriptorIndex := 524, attributes := #[] }] 49 2 #[1106, 1108, 575, 1110, 1112] #[{ accessFlags := 18, nameIndex := 13, descriptorIndex := 14, attributes := #[] }, { accessFlags := 18, nameIndex := 17, descriptorIndex := 18, attributes := #[] }, { accessFlags := 2, nameIndex := 21, descriptorIndex := 22, attributes := #[] }, { accessFlags := 2, nameIndex := 25, descriptorIndex := 26, attributes := #[] }, { accessFlags := 26, nameIndex := 1116, descriptorIndex := 1117, attributes := #[] }, { accessFlags := 24, nameIndex := 40, descriptorIndex := 26, attributes := #[] }, { accessFlags := 26, nameIndex := 1101, descriptorIndex := 1102, attributes := #[] }, { accessFlags := 26, nameIndex := 1121, descriptorIndex := 1122, attributes := #[] }, { accessFlags := 25, nameIndex := 599, descriptorIndex := 600, attributes := #[] }, { accessFlags := 24, nameIndex := 1125, descriptorIndex := 18, attributes := #[] }, { accessFlags := 24, nameIndex := 1127, descriptorIndex := 18, attributes := #[] }])
  fields := #[{ name := "value", type := (.array .byte), accessFlags := 18, slot := 0, constantValue := 0 }, { name := "coder", type := .byte, accessFlags := 18, slot := 1, constantValue := 0 }, { name := "hash", type := .int, accessFlags := 2, slot := 2, constantValue := 0 }, { name := "hashIsZero", type := .boolean, accessFlags := 2, slot := 3, constantValue := 0 }, { name := "serialVersionUID", type := .long, accessFlags := 26, slot := 0, constantValue := 0 }, { name := "COMPACT_STRINGS", type := .boolean, accessFlags := 24, slot := 1, constantValue := 0 }, { name := "serialPersistentFields", type := (.array (.object "java/io/ObjectStreamField")), accessFlags := 26, slot := 2, constantValue := 0 }, { name := "REPL", type := .char, accessFlags := 26, slot := 3, constantValue := 0 }, { name := "CASE_INSENSITIVE_ORDER", type := (.object "java/util/Comparator"), accessFlags := 25, slot := 4, constantValue := 0 }, { name := "LATIN1", type := .byte, accessFlags := 24, slot := 5, constantValue := 0 }, { name := "UTF16", type := .byte, accessFlags := 24, slot := 6, constantValue := 0 }]
  methods := #[k7m0, k7m1, k7m2, k7m3, k7m4, k7m5, k7m6, k7m7, k7m8, k7m9, k7m10, k7m11, k7m12, k7m13, k7m14, k7m15, k7m16, k7m17, k7m18, k7m19]
  instanceTypes := #[(.array .byte), .byte, .int, .boolean]
  staticTypes := #[.long, .boolean, (.array (.object "java/io/ObjectStreamField")), .char, (.object "java/util/Comparator"), .byte, .byte]
  resolved := Array.replicate 1451 none
  statics := some 0 }

def pool8 : Array CpInfo := pool [(6, .class_ 8), (1, u "java/lang/Object"), (0, u "<init>"), (0, u "()V"), (1, .class_ 14), (1, u "java/lang/StringUTF16"), (31, u "$assertionsDisabled"), (0, u "Z"), (13, u "HI_BYTE_SHIFT"), (0, u "I"), (2, u "LO_BYTE_SHIFT"), (49, .methodref 12 116), (0, .nameAndType 117 118), (0, u "compress"), (0, u "([CI[BII)I"), (3, u "([CII)[B"), (138, u "coderFromArrayLen"), (0, u "([BI)B"), (106, .class_ 371), (1, u "java/lang/StringUTF16$LinesSpliterator"), (58, u "MAX_LENGTH"), (196, .class_ 628), (0, u "java/lang/StringUTF16$CodePointsSpliterator"), (0, .class_ 630), (0, u "java/lang/StringUTF16$CharsSpliterator")] 4

def k8m0 : Method := { name := "<init>", desc := "()V", sig := { parameters := [], returnType := none }, accessFlags := 0, code := none }
def k8c1 : Code := { maxStack := 2, maxLocals := 2, code := jdk_52_method_15_code, exceptionTable := #[], attributes := #[] }
def k8m1 : Method := { name := "coderFromArrayLen", desc := "([BI)B", sig := { parameters := [(.array .byte), .int], returnType := some .byte }, accessFlags := 8, code := some k8c1 }
def k8c2 : Code := { maxStack := 5, maxLocals := 6, code := jdk_52_method_16_code, exceptionTable := #[], attributes := #[] }
def k8m2 : Method := { name := "compress", desc := "([CII)[B", sig := { parameters := [(.array .char), .int, .int], returnType := some (.array .byte) }, accessFlags := 9, code := some k8c2 }
def k8c3 : Code := { maxStack := 3, maxLocals := 7, code := jdk_52_method_21_code, exceptionTable := #[], attributes := #[] }
def k8m3 : Method := { name := "compress", desc := "([CI[BII)I", sig := { parameters := [(.array .char), .int, (.array .byte), .int, .int], returnType := some .int }, accessFlags := 9, code := some k8c3 }
/-- java/lang/StringUTF16 -/
def k8 : Class := { plain "java/lang/StringUTF16" (some 0) with
  accessFlags := 48
  interfaces := #[]
  cf := some (fileOf pool8 12 #[.nestMembers #[627, 629, 369]] #[{ accessFlags := 0, nameIndex := 9, descriptorIndex := 10, attributes := #[] }, { accessFlags := 8, nameIndex := 261, descriptorIndex := 262, attributes := #[] }, { accessFlags := 9, nameIndex := 117, descriptorIndex := 122, attributes := #[] }, { accessFlags := 9, nameIndex := 117, descriptorIndex := 118, attributes := #[] }] 48 6 #[] #[{ accessFlags := 26, nameIndex := 61, descriptorIndex := 62, attributes := #[] }, { accessFlags := 26, nameIndex := 65, descriptorIndex := 62, attributes := #[] }, { accessFlags := 24, nameIndex := 430, descriptorIndex := 62, attributes := #[] }, { accessFlags := 4120, nameIndex := 46, descriptorIndex := 47, attributes := #[] }])
  fields := #[{ name := "HI_BYTE_SHIFT", type := .int, accessFlags := 26, slot := 0, constantValue := 0 }, { name := "LO_BYTE_SHIFT", type := .int, accessFlags := 26, slot := 1, constantValue := 0 }, { name := "MAX_LENGTH", type := .int, accessFlags := 24, slot := 2, constantValue := 0 }, { name := "$assertionsDisabled", type := .boolean, accessFlags := 4120, slot := 3, constantValue := 0 }]
  methods := #[k8m0, k8m1, k8m2, k8m3]
  instanceTypes := #[]
  staticTypes := #[.int, .int, .int, .boolean]
  resolved := Array.replicate 635 none
  statics := none }

def pool9 : Array CpInfo := pool [(1, .methodref 2 3), (0, .class_ 4), (0, .nameAndType 5 6), (0, u "java/lang/Object"), (0, u "<init>"), (0, u "()V"), (0, .methodref 8 9), (0, .class_ 10), (0, .nameAndType 11 12), (0, u "com/example/ply3/ply3/Navigator"), (0, u "parse"), (0, u "(Ljava/lang/String;)Lcom/example/ply3/ply3/Target;"), (0, .fieldref 8 14), (0, .nameAndType 15 16), (0, u "redirect"), (0, u "Lcom/example/ply3/ply3/Target;"), (0, .fieldref 8 18), (0, .nameAndType 19 20), (0, u "internal"), (0, u "Z"), (0, .methodref 22 23), (0, .class_ 24), (0, .nameAndType 11 25), (0, u "com/example/ply3/ply3/Target"), (0, u "(Ljava/lang/String;)Ljava/util/Optional;"), (0, .invokeDynamic 0 27), (0, .nameAndType 28 29), (0, u "get"), (0, u "(Ljava/lang/String;)Ljava/util/function/Supplier;"), (0, .methodref 31 32), (0, .class_ 33), (0, .nameAndType 34 35), (0, u "java/util/Optional"), (0, u "orElseThrow"), (0, u "(Ljava/util/function/Supplier;)Ljava/lang/Object;"), (0, .methodref 31 37), (0, .nameAndType 38 39), (0, u "empty"), (0, u "()Ljava/util/Optional;"), (0, .methodref 31 41), (0, .nameAndType 42 43), (0, u "ofNullable"), (0, u "(Ljava/lang/Object;)Ljava/util/Optional;"), (8, u "(Ljava/lang/String;)V"), (2, u "redirectTo"), (0, u "internalRedirectTo"), (3, u "internalRedirect"), (0, u "lambda$parse$0"), (0, u "(Ljava/lang/String;)Ljava/lang/IllegalArgumentException;"), (3, .methodType 67), (0, u "()Ljava/lang/Object;"), (0, .methodHandle 6 69), (0, .methodref 8 70), (0, .nameAndType 61 62), (0, .methodType 72), (0, u "()Ljava/lang/IllegalArgumentException;"), (2, .methodHandle 6 76), (0, .methodref 77 78), (0, .class_ 79), (0, .nameAndType 80 81), (0, u "java/lang/invoke/LambdaMetafactory"), (0, u "metafactory"), (0, u "(Ljava/lang/invoke/MethodHandles$Lookup;Ljava/lang/String;Ljava/lang/invoke/MethodType;Ljava/lang/invoke/MethodType;Ljava/lang/invoke/MethodHandle;Ljava/lang/invoke/MethodType;)Ljava/lang/invoke/CallSite;")] 12

def k9c0 : Code := { maxStack := 1, maxLocals := 1, code := prog_14_method_1_code, exceptionTable := #[], attributes := #[] }
def k9m0 : Method := { name := "<init>", desc := "()V", sig := { parameters := [], returnType := none }, accessFlags := 0, code := some k9c0 }
def k9c1 : Code := { maxStack := 2, maxLocals := 2, code := prog_14_method_2_code, exceptionTable := #[], attributes := #[] }
def k9m1 : Method := { name := "redirectTo", desc := "(Ljava/lang/String;)V", sig := { parameters := [(.object "java/lang/String")], returnType := none }, accessFlags := 1, code := some k9c1 }
def k9c2 : Code := { maxStack := 2, maxLocals := 2, code := prog_14_method_3_code, exceptionTable := #[], attributes := #[] }
def k9m2 : Method := { name := "internalRedirectTo", desc := "(Ljava/lang/String;)V", sig := { parameters := [(.object "java/lang/String")], returnType := none }, accessFlags := 1, code := some k9c2 }
def k9c3 : Code := { maxStack := 2, maxLocals := 1, code := prog_14_method_4_code, exceptionTable := #[], attributes := #[] }
def k9m3 : Method := { name := "parse", desc := "(Ljava/lang/String;)Lcom/example/ply3/ply3/Target;", sig := { parameters := [(.object "java/lang/String")], returnType := some (.object "com/example/ply3/ply3/Target") }, accessFlags := 10, code := some k9c3 }
def k9c4 : Code := { maxStack := 1, maxLocals := 1, code := prog_14_method_6_code, exceptionTable := #[], attributes := #[] }
def k9m4 : Method := { name := "internalRedirect", desc := "()Ljava/util/Optional;", sig := { parameters := [], returnType := some (.object "java/util/Optional") }, accessFlags := 0, code := some k9c4 }
def k9c5 : Code := { maxStack := 3, maxLocals := 1, code := ⟨#[0xbb, 0x00, 0x2c, 0x59, 0x2a, 0xba, 0x00, 0x2e, 0x00, 0x00, 0xb7, 0x00, 0x32, 0xb0]⟩, exceptionTable := #[], attributes := #[] }
def k9m5 : Method := { name := "lambda$parse$0", desc := "(Ljava/lang/String;)Ljava/lang/IllegalArgumentException;", sig := { parameters := [(.object "java/lang/String")], returnType := some (.object "java/lang/IllegalArgumentException") }, accessFlags := 4106, code := some k9c5 }
/-- com/example/ply3/ply3/Navigator -/
def k9 : Class := { plain "com/example/ply3/ply3/Navigator" (some 0) with
  accessFlags := 33
  interfaces := #[]
  cf := some (fileOf pool9 8 #[.bootstrapMethods #[⟨75, #[66, 68, 71]⟩, ⟨0, #[]⟩]] #[{ accessFlags := 0, nameIndex := 5, descriptorIndex := 6, attributes := #[] }, { accessFlags := 1, nameIndex := 55, descriptorIndex := 52, attributes := #[] }, { accessFlags := 1, nameIndex := 56, descriptorIndex := 52, attributes := #[] }, { accessFlags := 10, nameIndex := 11, descriptorIndex := 12, attributes := #[] }, { accessFlags := 0, nameIndex := 60, descriptorIndex := 39, attributes := #[] }, { accessFlags := 4106, nameIndex := 61, descriptorIndex := 62, attributes := #[] }] 33 2 #[] #[{ accessFlags := 2, nameIndex := 15, descriptorIndex := 16, attributes := #[] }, { accessFlags := 2, nameIndex := 19, descriptorIndex := 20, attributes := #[] }])
  fields := #[{ name := "redirect", type := (.object "com/example/ply3/ply3/Target"), accessFlags := 2, slot := 0, constantValue := 0 }, { name := "internal", type := .boolean, accessFlags := 2, slot := 1, constantValue := 0 }]
  methods := #[k9m0, k9m1, k9m2, k9m3, k9m4, k9m5]
  instanceTypes := #[(.object "com/example/ply3/ply3/Target"), .boolean]
  staticTypes := #[]
  resolved := Array.replicate 94 none
  callSites := [(3, 5, .makes 40)]
  statics := none }

def pool10 : Array CpInfo := pool [(1, .fieldref 2 3), (0, .class_ 4), (0, .nameAndType 5 6), (0, u "java/util/Optional"), (0, u "EMPTY"), (0, u "Ljava/util/Optional;"), (0, .methodref 8 9), (0, .class_ 10), (0, .nameAndType 11 12), (0, u "java/lang/Object"), (0, u "<init>"), (0, u "()V"), (0, .fieldref 2 14), (0, .nameAndType 15 16), (0, u "value"), (0, u "Ljava/lang/Object;"), (0, .methodref 18 19), (0, .class_ 20), (0, .nameAndType 21 22), (0, u "java/util/Objects"), (0, u "requireNonNull"), (0, u "(Ljava/lang/Object;)Ljava/lang/Object;"), (0, .methodref 2 24), (0, .nameAndType 11 25), (0, u "(Ljava/lang/Object;)V"), (29, u "empty"), (0, u "()Ljava/util/Optional;"), (7, u "ofNullable"), (0, u "(Ljava/lang/Object;)Ljava/util/Optional;"), (16, u "of"), (82, u "orElse"), (3, u "(Ljava/util/function/Supplier;)Ljava/lang/Object;"), (2, u "orElseThrow")] 14

def k10c0 : Code := { maxStack := 1, maxLocals := 1, code := jdk_32_method_1_code, exceptionTable := #[], attributes := #[] }
def k10m0 : Method := { name := "empty", desc := "()Ljava/util/Optional;", sig := { parameters := [], returnType := some (.object "java/util/Optional") }, accessFlags := 9, code := some k10c0 }
def k10c1 : Code := { maxStack := 2, maxLocals := 2, code := jdk_32_method_2_code, exceptionTable := #[], attributes := #[] }
def k10m1 : Method := { name := "<init>", desc := "(Ljava/lang/Object;)V", sig := { parameters := [(.object "java/lang/Object")], returnType := none }, accessFlags := 2, code := some k10c1 }
def k10c2 : Code := { maxStack := 3, maxLocals := 1, code := jdk_32_method_3_code, exceptionTable := #[], attributes := #[] }
def k10m2 : Method := { name := "of", desc := "(Ljava/lang/Object;)Ljava/util/Optional;", sig := { parameters := [(.object "java/lang/Object")], returnType := some (.object "java/util/Optional") }, accessFlags := 9, code := some k10c2 }
def k10c3 : Code := { maxStack := 3, maxLocals := 1, code := jdk_32_method_4_code, exceptionTable := #[], attributes := #[] }
def k10m3 : Method := { name := "ofNullable", desc := "(Ljava/lang/Object;)Ljava/util/Optional;", sig := { parameters := [(.object "java/lang/Object")], returnType := some (.object "java/util/Optional") }, accessFlags := 9, code := some k10c3 }
def k10c4 : Code := { maxStack := 1, maxLocals := 2, code := jdk_32_method_15_code, exceptionTable := #[], attributes := #[] }
def k10m4 : Method := { name := "orElse", desc := "(Ljava/lang/Object;)Ljava/lang/Object;", sig := { parameters := [(.object "java/lang/Object")], returnType := some (.object "java/lang/Object") }, accessFlags := 1, code := some k10c4 }
def k10c5 : Code := { maxStack := 1, maxLocals := 2, code := jdk_32_method_18_code, exceptionTable := #[], attributes := #[] }
def k10m5 : Method := { name := "orElseThrow", desc := "(Ljava/util/function/Supplier;)Ljava/lang/Object;", sig := { parameters := [(.object "java/util/function/Supplier")], returnType := some (.object "java/lang/Object") }, accessFlags := 1, code := some k10c5 }
/-- java/util/Optional -/
def k10 : Class := { plain "java/util/Optional" (some 0) with
  accessFlags := 49
  interfaces := #[]
  cf := some (fileOf pool10 2 #[] #[{ accessFlags := 9, nameIndex := 55, descriptorIndex := 56, attributes := #[] }, { accessFlags := 2, nameIndex := 11, descriptorIndex := 25, attributes := #[] }, { accessFlags := 9, nameIndex := 82, descriptorIndex := 65, attributes := #[] }, { accessFlags := 9, nameIndex := 64, descriptorIndex := 65, attributes := #[] }, { accessFlags := 1, nameIndex := 165, descriptorIndex := 22, attributes := #[] }, { accessFlags := 1, nameIndex := 172, descriptorIndex := 169, attributes := #[] }] 49 8 #[] #[{ accessFlags := 26, nameIndex := 5, descriptorIndex := 6, attributes := #[] }, { accessFlags := 18, nameIndex := 15, descriptorIndex := 16, attributes := #[] }])
  fields := #[{ name := "EMPTY", type := (.object "java/util/Optional"), accessFlags := 26, slot := 0, constantValue := 0 }, { name := "value", type := (.object "java/lang/Object"), accessFlags := 18, slot := 0, constantValue := 0 }]
  methods := #[k10m0, k10m1, k10m2, k10m3, k10m4, k10m5]
  instanceTypes := #[(.object "java/lang/Object")]
  staticTypes := #[(.object "java/util/Optional")]
  resolved := Array.replicate 187 none
  statics := some 1 }

def pool11 : Array CpInfo := pool [(1, .methodref 2 3), (0, .class_ 4), (0, .nameAndType 5 6), (0, u "java/lang/Object"), (0, u "<init>"), (0, u "()V"), (0, .fieldref 8 9), (0, .class_ 10), (0, .nameAndType 11 12), (0, u "com/example/ply3/ply3/Target"), (0, u "name"), (0, u "Ljava/lang/String;"), (0, .fieldref 8 14), (0, .nameAndType 15 16), (0, u "segments"), (0, u "Ljava/util/List;"), (0, .string 18), (0, u "/"), (0, .methodref 20 21), (0, .class_ 22), (0, .nameAndType 23 24), (0, u "java/lang/String"), (0, u "equals"), (0, u "(Ljava/lang/Object;)Z"), (3, .class_ 30), (1, u "java/util/List"), (0, u "of"), (1, .methodref 8 34), (0, .nameAndType 5 35), (0, u "(Ljava/lang/String;Ljava/util/List;)V"), (0, .methodref 37 38), (0, .class_ 39), (0, .nameAndType 31 40), (0, u "java/util/Optional"), (0, u "(Ljava/lang/Object;)Ljava/util/Optional;"), (0, .methodref 8 42), (0, .nameAndType 11 43), (0, u "(Ljava/lang/String;)Ljava/lang/String;"), (0, .methodref 20 45), (0, .nameAndType 46 47), (0, u "split"), (0, u "(Ljava/lang/String;I)[Ljava/lang/String;"), (0, .methodref 8 49), (0, .nameAndType 50 51), (0, u "firstInvalid"), (0, u "([Ljava/lang/String;)I"), (0, .methodref 37 53), (0, .nameAndType 54 55), (0, u "empty"), (0, u "()Ljava/util/Optional;"), (0, .interfaceMethodref 28 57), (0, .nameAndType 31 58), (0, u "([Ljava/lang/Object;)Ljava/util/List;"), (0, .methodref 20 60), (0, .nameAndType 61 62), (0, u "isEmpty"), (0, u "()Z"), (2, .methodref 20 66), (0, .nameAndType 67 68), (0, u "charAt"), (0, u "(I)C"), (0, .methodref 8 70), (0, .nameAndType 71 72), (0, u "isAllowed"), (0, u "(C)Z"), (18, .methodref 20 92), (0, .nameAndType 93 94), (0, u "startsWith"), (0, u "(Ljava/lang/String;)Z"), (0, .methodref 20 96), (0, .nameAndType 97 94), (0, u "endsWith"), (0, .methodref 20 99), (0, .nameAndType 100 101), (0, u "length"), (0, u "()I"), (0, .methodref 20 103), (0, .nameAndType 104 105), (0, u "substring"), (0, u "(II)Ljava/lang/String;"), (0, .methodref 8 107), (0, .nameAndType 108 94), (0, u "isSegment"), (1, u "INDEX"), (6, u "parse"), (0, u "(Ljava/lang/String;)Ljava/util/Optional;"), (6, u "()Ljava/lang/String;")] 24

def k11c0 : Code := { maxStack := 2, maxLocals := 3, code := prog_31_method_1_code, exceptionTable := #[], attributes := #[] }
def k11m0 : Method := { name := "<init>", desc := "(Ljava/lang/String;Ljava/util/List;)V", sig := { parameters := [(.object "java/lang/String"), (.object "java/util/List")], returnType := none }, accessFlags := 2, code := some k11c0 }
def k11c1 : Code := { maxStack := 4, maxLocals := 3, code := prog_31_method_2_code, exceptionTable := #[], attributes := #[] }
def k11m1 : Method := { name := "parse", desc := "(Ljava/lang/String;)Ljava/util/Optional;", sig := { parameters := [(.object "java/lang/String")], returnType := some (.object "java/util/Optional") }, accessFlags := 8, code := some k11c1 }
def k11c2 : Code := { maxStack := 3, maxLocals := 3, code := prog_31_method_4_code, exceptionTable := #[], attributes := #[] }
def k11m2 : Method := { name := "name", desc := "(Ljava/lang/String;)Ljava/lang/String;", sig := { parameters := [(.object "java/lang/String")], returnType := some (.object "java/lang/String") }, accessFlags := 10, code := some k11c2 }
def k11c3 : Code := { maxStack := 2, maxLocals := 2, code := prog_31_method_5_code, exceptionTable := #[], attributes := #[] }
def k11m3 : Method := { name := "firstInvalid", desc := "([Ljava/lang/String;)I", sig := { parameters := [(.array (.object "java/lang/String"))], returnType := some .int }, accessFlags := 10, code := some k11c3 }
def k11c4 : Code := { maxStack := 2, maxLocals := 2, code := prog_31_method_6_code, exceptionTable := #[], attributes := #[] }
def k11m4 : Method := { name := "isSegment", desc := "(Ljava/lang/String;)Z", sig := { parameters := [(.object "java/lang/String")], returnType := some .boolean }, accessFlags := 10, code := some k11c4 }
def k11c5 : Code := { maxStack := 2, maxLocals := 1, code := prog_31_method_7_code, exceptionTable := #[], attributes := #[] }
def k11m5 : Method := { name := "isAllowed", desc := "(C)Z", sig := { parameters := [.char], returnType := some .boolean }, accessFlags := 10, code := some k11c5 }
def k11c6 : Code := { maxStack := 1, maxLocals := 1, code := prog_31_method_8_code, exceptionTable := #[], attributes := #[] }
def k11m6 : Method := { name := "name", desc := "()Ljava/lang/String;", sig := { parameters := [], returnType := some (.object "java/lang/String") }, accessFlags := 1, code := some k11c6 }
/-- com/example/ply3/ply3/Target -/
def k11 : Class := { plain "com/example/ply3/ply3/Target" (some 0) with
  accessFlags := 33
  interfaces := #[]
  cf := some (fileOf pool11 8 #[] #[{ accessFlags := 2, nameIndex := 5, descriptorIndex := 35, attributes := #[] }, { accessFlags := 8, nameIndex := 117, descriptorIndex := 118, attributes := #[] }, { accessFlags := 10, nameIndex := 11, descriptorIndex := 43, attributes := #[] }, { accessFlags := 10, nameIndex := 50, descriptorIndex := 51, attributes := #[] }, { accessFlags := 10, nameIndex := 108, descriptorIndex := 94, attributes := #[] }, { accessFlags := 10, nameIndex := 71, descriptorIndex := 72, attributes := #[] }, { accessFlags := 1, nameIndex := 11, descriptorIndex := 125, attributes := #[] }] 33 2 #[] #[{ accessFlags := 24, nameIndex := 110, descriptorIndex := 12, attributes := #[] }, { accessFlags := 18, nameIndex := 11, descriptorIndex := 12, attributes := #[] }, { accessFlags := 18, nameIndex := 15, descriptorIndex := 16, attributes := #[] }])
  fields := #[{ name := "INDEX", type := (.object "java/lang/String"), accessFlags := 24, slot := 0, constantValue := 0 }, { name := "name", type := (.object "java/lang/String"), accessFlags := 18, slot := 0, constantValue := 0 }, { name := "segments", type := (.object "java/util/List"), accessFlags := 18, slot := 1, constantValue := 0 }]
  methods := #[k11m0, k11m1, k11m2, k11m3, k11m4, k11m5, k11m6]
  instanceTypes := #[(.object "java/lang/String"), (.object "java/util/List")]
  staticTypes := #[(.object "java/lang/String")]
  resolved := Array.replicate 150 none
  statics := none }

def pool12 : Array CpInfo := pool [(1, .class_ 2), (0, u "java/lang/String"), (1, .class_ 6), (1, u "java/lang/Object"), (0, u "<init>"), (0, u "()V"), (0, .methodref 1 10), (0, .nameAndType 11 12), (0, u "checkIndex"), (0, u "(II)V"), (1, .class_ 16), (1, u "java/lang/StringLatin1"), (21, .methodref 39 40), (0, .class_ 41), (0, .nameAndType 42 43), (0, u "java/lang/Math"), (0, u "min"), (0, u "(II)I"), (9, u "([BI)C"), (34, .methodref 14 89), (0, .nameAndType 90 91), (0, u "canEncode"), (0, u "(I)Z"), (0, .methodref 39 93), (0, .nameAndType 94 43), (0, u "max"), (0, .methodref 14 96), (0, .nameAndType 97 98), (0, u "indexOfChar"), (0, u "([BIII)I"), (2, u "indexOf"), (19, u "$assertionsDisabled"), (0, u "Z"), (98, .class_ 223), (1, u "java/lang/StringLatin1$LinesSpliterator"), (28, u "charAt"), (28, u "equals"), (0, u "([B[B)Z"), (107, .class_ 391), (0, u "java/lang/StringLatin1$CharsSpliterator")] 3

def k12m0 : Method := { name := "<init>", desc := "()V", sig := { parameters := [], returnType := none }, accessFlags := 0, code := none }
def k12c1 : Code := { maxStack := 2, maxLocals := 2, code := jdk_43_method_2_code, exceptionTable := #[], attributes := #[] }
def k12m1 : Method := { name := "charAt", desc := "([BI)C", sig := { parameters := [(.array .byte), .int], returnType := some .char }, accessFlags := 9, code := some k12c1 }
def k12c2 : Code := { maxStack := 2, maxLocals := 1, code := jdk_43_method_4_code, exceptionTable := #[], attributes := #[] }
def k12m2 : Method := { name := "canEncode", desc := "(I)Z", sig := { parameters := [.int], returnType := some .boolean }, accessFlags := 9, code := some k12c2 }
def k12c3 : Code := { maxStack := 3, maxLocals := 3, code := jdk_43_method_13_code, exceptionTable := #[], attributes := #[] }
def k12m3 : Method := { name := "equals", desc := "([B[B)Z", sig := { parameters := [(.array .byte), (.array .byte)], returnType := some .boolean }, accessFlags := 9, code := some k12c3 }
def k12c4 : Code := { maxStack := 4, maxLocals := 4, code := jdk_43_method_22_code, exceptionTable := #[], attributes := #[] }
def k12m4 : Method := { name := "indexOf", desc := "([BIII)I", sig := { parameters := [(.array .byte), .int, .int, .int], returnType := some .int }, accessFlags := 9, code := some k12c4 }
def k12c5 : Code := { maxStack := 2, maxLocals := 6, code := jdk_43_method_23_code, exceptionTable := #[], attributes := #[] }
def k12m5 : Method := { name := "indexOfChar", desc := "([BIII)I", sig := { parameters := [(.array .byte), .int, .int, .int], returnType := some .int }, accessFlags := 10, code := some k12c5 }
/-- java/lang/StringLatin1 -/
def k12 : Class := { plain "java/lang/StringLatin1" (some 0) with
  accessFlags := 48
  interfaces := #[]
  cf := some (fileOf pool12 14 #[.nestMembers #[390, 221]] #[{ accessFlags := 0, nameIndex := 7, descriptorIndex := 8, attributes := #[] }, { accessFlags := 9, nameIndex := 252, descriptorIndex := 53, attributes := #[] }, { accessFlags := 9, nameIndex := 90, descriptorIndex := 91, attributes := #[] }, { accessFlags := 9, nameIndex := 281, descriptorIndex := 282, attributes := #[] }, { accessFlags := 9, nameIndex := 101, descriptorIndex := 98, attributes := #[] }, { accessFlags := 10, nameIndex := 97, descriptorIndex := 98, attributes := #[] }] 48 4 #[] #[{ accessFlags := 4120, nameIndex := 121, descriptorIndex := 122, attributes := #[] }])
  fields := #[{ name := "$assertionsDisabled", type := .boolean, accessFlags := 4120, slot := 0, constantValue := 0 }]
  methods := #[k12m0, k12m1, k12m2, k12m3, k12m4, k12m5]
  instanceTypes := #[]
  staticTypes := #[.boolean]
  resolved := Array.replicate 395 none
  statics := none }

def pool13 : Array CpInfo := pool [(9, u "<init>"), (6, .class_ 18), (1, u "java/lang/Object"), (0, u "()V"), (1, .class_ 23), (1, u "jdk/internal/util/ArraysSupport"), (0, u "LOG2_ARRAY_LONG_INDEX_SCALE"), (0, u "I"), (2, u "U"), (0, u "Ljdk/internal/misc/Unsafe;"), (8, u "BIG_ENDIAN"), (0, u "Z"), (8, u "LOG2_BYTE_BIT_SIZE"), (4, u "LOG2_ARRAY_INT_INDEX_SCALE"), (54, u "JLA"), (0, u "Ljdk/internal/access/JavaLangAccess;"), (11, u "LOG2_ARRAY_BOOLEAN_INDEX_SCALE"), (9, u "LOG2_ARRAY_BYTE_INDEX_SCALE"), (5, u "LOG2_ARRAY_CHAR_INDEX_SCALE"), (5, u "LOG2_ARRAY_SHORT_INDEX_SCALE"), (5, u "mismatch"), (12, u "LOG2_ARRAY_FLOAT_INDEX_SCALE"), (24, u "LOG2_ARRAY_DOUBLE_INDEX_SCALE"), (89, u "T_BOOLEAN"), (2, u "T_CHAR"), (1, u "T_FLOAT"), (1, u "T_DOUBLE"), (1, u "T_BYTE"), (1, u "T_SHORT"), (1, u "T_INT"), (1, u "T_LONG"), (1, u "SOFT_MAX_ARRAY_LENGTH"), (42, u "([BI[BII)I")] 40

def k13m0 : Method := { name := "<init>", desc := "()V", sig := { parameters := [], returnType := none }, accessFlags := 2, code := none }
def k13c1 : Code := { maxStack := 8, maxLocals := 8, code := jdk_48_method_14_code, exceptionTable := #[], attributes := #[] }
def k13m1 : Method := { name := "mismatch", desc := "([BI[BII)I", sig := { parameters := [(.array .byte), .int, (.array .byte), .int, .int], returnType := some .int }, accessFlags := 9, code := some k13c1 }
/-- jdk/internal/util/ArraysSupport -/
def k13 : Class := { plain "jdk/internal/util/ArraysSupport" (some 0) with
  accessFlags := 33
  interfaces := #[]
  cf := some (fileOf pool13 21 #[] #[{ accessFlags := 2, nameIndex := 9, descriptorIndex := 19, attributes := #[] }, { accessFlags := 9, nameIndex := 149, descriptorIndex := 337, attributes := #[] }] 33 16 #[] #[{ accessFlags := 24, nameIndex := 28, descriptorIndex := 29, attributes := #[] }, { accessFlags := 26, nameIndex := 38, descriptorIndex := 39, attributes := #[] }, { accessFlags := 25, nameIndex := 121, descriptorIndex := 25, attributes := #[] }, { accessFlags := 25, nameIndex := 131, descriptorIndex := 25, attributes := #[] }, { accessFlags := 25, nameIndex := 137, descriptorIndex := 25, attributes := #[] }, { accessFlags := 25, nameIndex := 143, descriptorIndex := 25, attributes := #[] }, { accessFlags := 25, nameIndex := 53, descriptorIndex := 25, attributes := #[] }, { accessFlags := 25, nameIndex := 24, descriptorIndex := 25, attributes := #[] }, { accessFlags := 25, nameIndex := 162, descriptorIndex := 25, attributes := #[] }, { accessFlags := 25, nameIndex := 187, descriptorIndex := 25, attributes := #[] }, { accessFlags := 26, nameIndex := 48, descriptorIndex := 25, attributes := #[] }, { accessFlags := 25, nameIndex := 277, descriptorIndex := 25, attributes := #[] }, { accessFlags := 25, nameIndex := 280, descriptorIndex := 25, attributes := #[] }, { accessFlags := 25, nameIndex := 282, descriptorIndex := 25, attributes := #[] }, { accessFlags := 25, nameIndex := 284, descriptorIndex := 25, attributes := #[] }, { accessFlags := 25, nameIndex := 286, descriptorIndex := 25, attributes := #[] }, { accessFlags := 25, nameIndex := 288, descriptorIndex := 25, attributes := #[] }, { accessFlags := 25, nameIndex := 290, descriptorIndex := 25, attributes := #[] }, { accessFlags := 25, nameIndex := 292, descriptorIndex := 25, attributes := #[] }, { accessFlags := 26, nameIndex := 108, descriptorIndex := 109, attributes := #[] }, { accessFlags := 25, nameIndex := 294, descriptorIndex := 25, attributes := #[] }])
  fields := #[{ name := "U", type := (.object "jdk/internal/misc/Unsafe"), accessFlags := 24, slot := 0, constantValue := 0 }, { name := "BIG_ENDIAN", type := .boolean, accessFlags := 26, slot := 1, constantValue := 0 }, { name := "LOG2_ARRAY_BOOLEAN_INDEX_SCALE", type := .int, accessFlags := 25, slot := 2, constantValue := 0 }, { name := "LOG2_ARRAY_BYTE_INDEX_SCALE", type := .int, accessFlags := 25, slot := 3, constantValue := 0 }, { name := "LOG2_ARRAY_CHAR_INDEX_SCALE", type := .int, accessFlags := 25, slot := 4, constantValue := 0 }, { name := "LOG2_ARRAY_SHORT_INDEX_SCALE", type := .int, accessFlags := 25, slot := 5, constantValue := 0 }, { name := "LOG2_ARRAY_INT_INDEX_SCALE", type := .int, accessFlags := 25, slot := 6, constantValue := 0 }, { name := "LOG2_ARRAY_LONG_INDEX_SCALE", type := .int, accessFlags := 25, slot := 7, constantValue := 0 }, { name := "LOG2_ARRAY_FLOAT_INDEX_SCALE", type := .int, accessFlags := 25, slot := 8, constantValue := 0 }, { name := "LOG2_ARRAY_DOUBLE_INDEX_SCALE", type := .int, accessFlags := 25, slot := 9, constantValue := 0 }, { name := "LOG2_BYTE_BIT_SIZE", type := .int, accessFlags := 26, slot := 10, constantValue := 0 }, { name := "T_BOOLEAN", type := .int, accessFlags := 25, slot := 11, constantValue := 0 }, { name := "T_CHAR", type := .int, accessFlags := 25, slot := 12, constantValue := 0 }, { name := "T_FLOAT", type := .int, accessFlags := 25, slot := 13, constantValue := 0 }, { name := "T_DOUBLE", type := .int, accessFlags := 25, slot := 14, constantValue := 0 }, { name := "T_BYTE", type := .int, accessFlags := 25, slot := 15, constantValue := 0 }, { name := "T_SHORT", type := .int, accessFlags := 25, slot := 16, constantValue := 0 }, { name := "T_INT", type := .int, accessFlags := 25, slot := 17, constantValue := 0 }, { name := "T_LONG", type := .int, accessFlags := 25, slot := 18, constantValue := 0 }, { name := "JLA", type := (.object "jdk/internal/access/JavaLangAccess"), accessFlags := 26, slot := 19, constantValue := 0 }, { name := "SOFT_MAX_ARRAY_LENGTH", type := .int, accessFlags := 25, slot := 20, constantValue := 0 }]
  methods := #[k13m0, k13m1]
  instanceTypes := #[]
  staticTypes := #[(.object "jdk/internal/misc/Unsafe"), .boolean, .int, .int, .int, .int, .int, .int, .int, .int, .int, .int, .int, .int, .int, .int, .int, .int, .int, (.object "jdk/internal/access/JavaLangAccess"), .int]
  resolved := Array.replicate 378 none
  statics := none }

def pool14 : Array CpInfo := pool [(2, .class_ 4), (1, u "java/lang/Object"), (0, u "<init>"), (0, u "()V"), (17, .class_ 26), (1, u "jdk/internal/util/Preconditions"), (6, u "checkIndex"), (13, u "checkFromToIndex"), (7, .class_ 56), (0, u "jdk/internal/util/Preconditions$4"), (57, .class_ 115), (0, u "jdk/internal/util/Preconditions$1"), (7, u "SIOOBE_FORMATTER"), (0, u "Ljava/util/function/BiFunction;"), (0, .class_ 126), (0, u "jdk/internal/util/Preconditions$2"), (3, u "AIOOBE_FORMATTER"), (0, .class_ 132), (0, u "jdk/internal/util/Preconditions$3"), (3, u "IOOBE_FORMATTER"), (41, u "(IILjava/util/function/BiFunction;)I"), (4, u "(IIILjava/util/function/BiFunction;)I")] 10

def k14m0 : Method := { name := "<init>", desc := "()V", sig := { parameters := [], returnType := none }, accessFlags := 1, code := none }
def k14c1 : Code := { maxStack := 3, maxLocals := 3, code := jdk_41_method_11_code, exceptionTable := #[], attributes := #[] }
def k14m1 : Method := { name := "checkIndex", desc := "(IILjava/util/function/BiFunction;)I", sig := { parameters := [.int, .int, (.object "java/util/function/BiFunction")], returnType := some .int }, accessFlags := 9, code := some k14c1 }
def k14c2 : Code := { maxStack := 4, maxLocals := 4, code := jdk_41_method_12_code, exceptionTable := #[], attributes := #[] }
def k14m2 : Method := { name := "checkFromToIndex", desc := "(IIILjava/util/function/BiFunction;)I", sig := { parameters := [.int, .int, .int, (.object "java/util/function/BiFunction")], returnType := some .int }, accessFlags := 9, code := some k14c2 }
/-- jdk/internal/util/Preconditions -/
def k14 : Class := { plain "jdk/internal/util/Preconditions" (some 0) with
  accessFlags := 33
  interfaces := #[]
  cf := some (fileOf pool14 24 #[.nestMembers #[55, 131, 125, 114]] #[{ accessFlags := 1, nameIndex := 5, descriptorIndex := 6, attributes := #[] }, { accessFlags := 9, nameIndex := 33, descriptorIndex := 178, attributes := #[] }, { accessFlags := 9, nameIndex := 47, descriptorIndex := 183, attributes := #[] }] 33 2 #[] #[{ accessFlags := 25, nameIndex := 123, descriptorIndex := 124, attributes := #[] }, { accessFlags := 25, nameIndex := 130, descriptorIndex := 124, attributes := #[] }, { accessFlags := 25, nameIndex := 136, descriptorIndex := 124, attributes := #[] }])
  fields := #[{ name := "SIOOBE_FORMATTER", type := (.object "java/util/function/BiFunction"), accessFlags := 25, slot := 0, constantValue := 0 }, { name := "AIOOBE_FORMATTER", type := (.object "java/util/function/BiFunction"), accessFlags := 25, slot := 1, constantValue := 0 }, { name := "IOOBE_FORMATTER", type := (.object "java/util/function/BiFunction"), accessFlags := 25, slot := 2, constantValue := 0 }]
  methods := #[k14m0, k14m1, k14m2]
  instanceTypes := #[]
  staticTypes := #[(.object "java/util/function/BiFunction"), (.object "java/util/function/BiFunction"), (.object "java/util/function/BiFunction")]
  resolved := Array.replicate 194 none
  statics := some 2 }

def pool15 : Array CpInfo := pool [(1, .class_ 2), (0, u "java/lang/Math"), (1, .class_ 6), (1, u "java/lang/Object"), (0, u "<init>"), (0, u "()V"), (89, .class_ 100), (1, u "java/lang/Math$RandomNumberGeneratorHolder"), (71, u "negativeZeroFloatBits"), (0, u "J"), (2, u "negativeZeroDoubleBits"), (21, u "max"), (2, u "min"), (43, u "$assertionsDisabled"), (0, u "Z"), (88, u "(II)I"), (2, u "twoToTheDoubleScaleDown"), (0, u "D"), (4, u "twoToTheDoubleScaleUp"), (9, u "E"), (3, u "PI"), (2, u "TAU"), (2, u "DEGREES_TO_RADIANS"), (0, u "RADIANS_TO_DEGREES")] 94

def k15m0 : Method := { name := "<init>", desc := "()V", sig := { parameters := [], returnType := none }, accessFlags := 2, code := none }
def k15c1 : Code := { maxStack := 2, maxLocals := 2, code := jdk_29_method_65_code, exceptionTable := #[], attributes := #[] }
def k15m1 : Method := { name := "max", desc := "(II)I", sig := { parameters := [.int, .int], returnType := some .int }, accessFlags := 9, code := some k15c1 }
def k15c2 : Code := { maxStack := 2, maxLocals := 2, code := jdk_29_method_69_code, exceptionTable := #[], attributes := #[] }
def k15m2 : Method := { name := "min", desc := "(II)I", sig := { parameters := [.int, .int], returnType := some .int }, accessFlags := 9, code := some k15c2 }
/-- java/lang/Math -/
def k15 : Class := { plain "java/lang/Math" (some 0) with
  accessFlags := 49
  interfaces := #[]
  cf := some (fileOf pool15 1 #[.nestMembers #[98]] #[{ accessFlags := 2, nameIndex := 7, descriptorIndex := 8, attributes := #[] }, { accessFlags := 9, nameIndex := 198, descriptorIndex := 335, attributes := #[] }, { accessFlags := 9, nameIndex := 201, descriptorIndex := 335, attributes := #[] }] 49 4 #[] #[{ accessFlags := 25, nameIndex := 354, descriptorIndex := 339, attributes := #[] }, { accessFlags := 25, nameIndex := 358, descriptorIndex := 339, attributes := #[] }, { accessFlags := 25, nameIndex := 361, descriptorIndex := 339, attributes := #[] }, { accessFlags := 26, nameIndex := 364, descriptorIndex := 339, attributes := #[] }, { accessFlags := 26, nameIndex := 365, descriptorIndex := 339, attributes := #[] }, { accessFlags := 26, nameIndex := 172, descriptorIndex := 173, attributes := #[] }, { accessFlags := 26, nameIndex := 176, descriptorIndex := 173, attributes := #[] }, { accessFlags := 8, nameIndex := 344, descriptorIndex := 339, attributes := #[] }, { accessFlags := 8, nameIndex := 338, descriptorIndex := 339, attributes := #[] }, { accessFlags := 4120, nameIndex := 245, descriptorIndex := 246, attributes := #[] }])
  fields := #[{ name := "E", type := .double, accessFlags := 25, slot := 0, constantValue := 0 }, { name := "PI", type := .double, accessFlags := 25, slot := 1, constantValue := 0 }, { name := "TAU", type := .double, accessFlags := 25, slot := 2, constantValue := 0 }, { name := "DEGREES_TO_RADIANS", type := .double, accessFlags := 26, slot := 3, constantValue := 0 }, { name := "RADIANS_TO_DEGREES", type := .double, accessFlags := 26, slot := 4, constantValue := 0 }, { name := "negativeZeroFloatBits", type := .long, accessFlags := 26, slot := 5, constantValue := 0 }, { name := "negativeZeroDoubleBits", type := .long, accessFlags := 26, slot := 6, constantValue := 0 }, { name := "twoToTheDoubleScaleUp", type := .double, accessFlags := 8, slot := 7, constantValue := 0 }, { name := "twoToTheDoubleScaleDown", type := .double, accessFlags := 8, slot := 8, constantValue := 0 }, { name := "$assertionsDisabled", type := .boolean, accessFlags := 4120, slot := 9, constantValue := 0 }]
  methods := #[k15m0, k15m1, k15m2]
  instanceTypes := #[]
  staticTypes := #[.double, .double, .double, .double, .double, .long, .long, .double, .double, .boolean]
  resolved := Array.replicate 460 none
  statics := none }

def pool16 : Array CpInfo := pool [(8, .class_ 10), (1, u "java/lang/Iterable"), (24, .class_ 36), (0, u "java/lang/Object")] 25

/-- java/lang/Iterable -/
def k16 : Class := { plain "java/lang/Iterable" (some 0) with
  accessFlags := 1537
  interfaces := #[]
  cf := some (fileOf pool16 8 #[] #[] 1537 35 #[] #[])
  fields := #[]
  methods := #[]
  instanceTypes := #[]
  staticTypes := #[]
  resolved := Array.replicate 62 none
  statics := none }

def pool17 : Array CpInfo := pool [(10, .class_ 12), (1, u "java/util/Collection"), (47, .class_ 61), (0, u "java/lang/Object"), (0, .class_ 63), (0, u "java/lang/Iterable")] 51

/-- java/util/Collection -/
def k17 : Class := { plain "java/util/Collection" (some 0) with
  accessFlags := 1537
  interfaces := #[16]
  cf := some (fileOf pool17 10 #[] #[] 1537 60 #[62] #[])
  fields := #[]
  methods := #[]
  instanceTypes := #[]
  staticTypes := #[]
  resolved := Array.replicate 115 none
  statics := none }

def pool18 : Array CpInfo := pool [(1, .methodref 2 3), (0, .class_ 4), (0, .nameAndType 5 6), (0, u "java/lang/Object"), (0, u "<init>"), (0, u "()V"), (1, .class_ 10), (1, u "java/util/AbstractCollection"), (66, .class_ 78), (0, u "java/util/Collection")] 81

def k18c0 : Code := { maxStack := 1, maxLocals := 1, code := jdk_22_method_1_code, exceptionTable := #[], attributes := #[] }
def k18m0 : Method := { name := "<init>", desc := "()V", sig := { parameters := [], returnType := none }, accessFlags := 4, code := some k18c0 }
/-- java/util/AbstractCollection -/
def k18 : Class := { plain "java/util/AbstractCollection" (some 0) with
  accessFlags := 1057
  interfaces := #[17]
  cf := some (fileOf pool18 8 #[] #[{ accessFlags := 4, nameIndex := 5, descriptorIndex := 6, attributes := #[] }] 1057 2 #[77] #[])
  fields := #[]
  methods := #[k18m0]
  instanceTypes := #[]
  staticTypes := #[]
  resolved := Array.replicate 160 none
  statics := none }

def pool19 : Array CpInfo := pool [(8, .class_ 10), (1, u "java/util/SequencedCollection"), (15, .class_ 27), (0, u "java/lang/Object"), (0, .class_ 29), (0, u "java/util/Collection")] 27

/-- java/util/SequencedCollection -/
def k19 : Class := { plain "java/util/SequencedCollection" (some 0) with
  accessFlags := 1537
  interfaces := #[17]
  cf := some (fileOf pool19 8 #[] #[] 1537 26 #[28] #[])
  fields := #[]
  methods := #[]
  instanceTypes := #[]
  staticTypes := #[]
  resolved := Array.replicate 57 none
  statics := none }

def pool20 : Array CpInfo := pool [(8, .class_ 10), (1, u "java/util/List"), (20, u "(Ljava/lang/Object;)V"), (16, u "<init>"), (39, u "of"), (7, .class_ 97), (0, u "java/util/ImmutableCollections$List12"), (0, .methodref 96 99), (0, .nameAndType 48 31), (3, .class_ 104), (0, u "java/lang/Object"), (3, u "([Ljava/lang/Object;)Ljava/util/List;"), (11, .class_ 121), (0, u "java/util/SequencedCollection")] 129

def k20c0 : Code := { maxStack := 5, maxLocals := 2, code := jdk_40_method_47_code, exceptionTable := #[], attributes := #[] }
def k20m0 : Method := { name := "of", desc := "([Ljava/lang/Object;)Ljava/util/List;", sig := { parameters := [(.array (.object "java/lang/Object"))], returnType := some (.object "java/util/List") }, accessFlags := 137, code := some k20c0 }
/-- java/util/List -/
def k20 : Class := { plain "java/util/List" (some 0) with
  accessFlags := 1537
  interfaces := #[19]
  cf := some (fileOf pool20 8 #[] #[{ accessFlags := 137, nameIndex := 88, descriptorIndex := 108, attributes := #[] }] 1537 103 #[120] #[])
  fields := #[]
  methods := #[k20m0]
  instanceTypes := #[]
  staticTypes := #[]
  resolved := Array.replicate 251 none
  statics := none }

def pool21 : Array CpInfo := pool [(1, .methodref 2 3), (0, .class_ 4), (0, .nameAndType 5 6), (0, u "java/util/AbstractCollection"), (0, u "<init>"), (0, u "()V"), (0, .fieldref 8 9), (0, .class_ 10), (0, .nameAndType 11 12), (0, u "java/util/AbstractList"), (0, u "modCount"), (0, u "I"), (64, .class_ 78), (0, u "java/util/AbstractList$Itr"), (3, .class_ 83), (0, u "java/util/AbstractList$ListItr"), (9, .class_ 94), (0, u "java/util/AbstractList$RandomAccessSubList"), (3, .class_ 99), (0, u "java/util/AbstractList$SubList"), (33, .class_ 134), (0, u "java/util/List"), (73, .class_ 209), (0, u "java/util/AbstractList$SubList$1"), (0, .class_ 211), (0, u "java/util/AbstractList$RandomAccessSpliterator")] 6

def k21c0 : Code := { maxStack := 2, maxLocals := 1, code := jdk_39_method_1_code, exceptionTable := #[], attributes := #[] }
def k21m0 : Method := { name := "<init>", desc := "()V", sig := { parameters := [], returnType := none }, accessFlags := 4, code := some k21c0 }
/-- java/util/AbstractList -/
def k21 : Class := { plain "java/util/AbstractList" (some 18) with
  accessFlags := 1057
  interfaces := #[20]
  cf := some (fileOf pool21 8 #[.nestMembers #[93, 98, 208, 210, 82, 77]] #[{ accessFlags := 4, nameIndex := 5, descriptorIndex := 6, attributes := #[] }] 1057 2 #[133] #[{ accessFlags := 132, nameIndex := 11, descriptorIndex := 12, attributes := #[] }])
  fields := #[{ name := "modCount", type := .int, accessFlags := 132, slot := 0, constantValue := 0 }]
  methods := #[k21m0]
  instanceTypes := #[.int]
  staticTypes := #[]
  resolved := Array.replicate 218 none
  statics := none }

def pool22 : Array CpInfo := pool [(1, .class_ 2), (0, u "java/util/RandomAccess"), (0, .class_ 4), (0, u "java/lang/Object")] 2

/-- java/util/RandomAccess -/
def k22 : Class := { plain "java/util/RandomAccess" (some 0) with
  accessFlags := 1537
  interfaces := #[]
  cf := some (fileOf pool22 1 #[] #[] 1537 3 #[] #[])
  fields := #[]
  methods := #[]
  instanceTypes := #[]
  staticTypes := #[]
  resolved := Array.replicate 7 none
  statics := none }

def pool23 : Array CpInfo := pool [(1, .class_ 2), (0, u "java/lang/Cloneable"), (0, .class_ 4), (0, u "java/lang/Object")] 2

/-- java/lang/Cloneable -/
def k23 : Class := { plain "java/lang/Cloneable" (some 0) with
  accessFlags := 1537
  interfaces := #[]
  cf := some (fileOf pool23 1 #[] #[] 1537 3 #[] #[])
  fields := #[]
  methods := #[]
  instanceTypes := #[]
  staticTypes := #[]
  resolved := Array.replicate 7 none
  statics := none }

def pool24 : Array CpInfo := pool [(1, .methodref 2 3), (0, .class_ 4), (0, .nameAndType 5 6), (0, u "java/util/AbstractList"), (0, u "<init>"), (0, u "()V"), (2, .fieldref 10 11), (0, .class_ 12), (0, .nameAndType 13 14), (0, u "java/util/ArrayList"), (0, u "elementData"), (0, u "[Ljava/lang/Object;"), (2, u "EMPTY_ELEMENTDATA"), (21, .fieldref 10 40), (0, .nameAndType 41 14), (0, u "DEFAULTCAPACITY_EMPTY_ELEMENTDATA"), (8, u "size"), (0, u "I"), (96, .class_ 149), (0, u "java/util/List"), (112, .class_ 263), (0, u "java/util/ArrayList$ListItr"), (3, .class_ 268), (0, u "java/util/ArrayList$Itr"), (7, .class_ 277), (0, u "java/util/ArrayList$SubList"), (12, .class_ 291), (0, u "java/util/ArrayList$ArrayListSpliterator"), (37, .class_ 330), (0, u "java/util/RandomAccess"), (0, .class_ 332), (0, u "java/lang/Cloneable"), (0, .class_ 334), (0, u "java/io/Serializable"), (0, u "serialVersionUID"), (0, u "J"), (3, u "DEFAULT_CAPACITY"), (159, .class_ 501), (0, u "java/util/ArrayList$SubList$2"), (0, .class_ 503), (0, u "java/util/ArrayList$SubList$1")] 5

def k24c0 : Code := { maxStack := 2, maxLocals := 1, code := jdk_38_method_2_code, exceptionTable := #[], attributes := #[] }
def k24m0 : Method := { name := "<init>", desc := "()V", sig := { parameters := [], returnType := none }, accessFlags := 1, code := some k24c0 }
/-- java/util/ArrayList -/
def k24 : Class := { plain "java/util/ArrayList" (some 21) with
  accessFlags := 33
  interfaces := #[20, 22, 23, 2]
  cf := some (fileOf pool24 10 #[.nestMembers #[290, 276, 500, 502, 262, 267]] #[{ accessFlags := 1, nameIndex := 5, descriptorIndex := 6, attributes := #[] }] 33 2 #[148, 329, 331, 333] #[{ accessFlags := 26, nameIndex := 335, descriptorIndex := 336, attributes := #[] }, { accessFlags := 26, nameIndex := 340, descriptorIndex := 51, attributes := #[] }, { accessFlags := 26, nameIndex := 17, descriptorIndex := 14, attributes := #[] }, { accessFlags := 26, nameIndex := 41, descriptorIndex := 14, attributes := #[] }, { accessFlags := 128, nameIndex := 13, descriptorIndex := 14, attributes := #[] }, { accessFlags := 2, nameIndex := 50, descriptorIndex := 51, attributes := #[] }])
  fields := #[{ name := "serialVersionUID", type := .long, accessFlags := 26, slot := 0, constantValue := 0 }, { name := "DEFAULT_CAPACITY", type := .int, accessFlags := 26, slot := 1, constantValue := 0 }, { name := "EMPTY_ELEMENTDATA", type := (.array (.object "java/lang/Object")), accessFlags := 26, slot := 2, constantValue := 0 }, { name := "DEFAULTCAPACITY_EMPTY_ELEMENTDATA", type := (.array (.object "java/lang/Object")), accessFlags := 26, slot := 3, constantValue := 0 }, { name := "elementData", type := (.array (.object "java/lang/Object")), accessFlags := 128, slot := 1, constantValue := 0 }, { name := "size", type := .int, accessFlags := 2, slot := 2, constantValue := 0 }]
  methods := #[k24m0]
  instanceTypes := #[.int, (.array (.object "java/lang/Object")), .int]
  staticTypes := #[.long, .int, (.array (.object "java/lang/Object")), (.array (.object "java/lang/Object"))]
  resolved := Array.replicate 509 none
  statics := some 3 }

def pool25 : Array CpInfo := pool [(1, .methodref 2 3), (0, .class_ 4), (0, .nameAndType 5 6), (0, u "java/util/AbstractCollection"), (0, u "<init>"), (0, u "()V"), (1, .class_ 10), (1, u "java/util/ImmutableCollections"), (2, .class_ 14), (0, u "java/util/ImmutableCollections$AbstractImmutableCollection")] 41

def k25c0 : Code := { maxStack := 1, maxLocals := 1, code := jdk_47_method_1_code, exceptionTable := #[], attributes := #[] }
def k25m0 : Method := { name := "<init>", desc := "()V", sig := { parameters := [], returnType := none }, accessFlags := 0, code := some k25c0 }
/-- java/util/ImmutableCollections$AbstractImmutableCollection -/
def k25 : Class := { plain "java/util/ImmutableCollections$AbstractImmutableCollection" (some 18) with
  accessFlags := 1056
  interfaces := #[]
  cf := some (fileOf pool25 13 #[.nestHost 8] #[{ accessFlags := 0, nameIndex := 5, descriptorIndex := 6, attributes := #[] }] 1056 2 #[] #[])
  fields := #[]
  methods := #[k25m0]
  instanceTypes := #[]
  staticTypes := #[]
  resolved := Array.replicate 56 none
  statics := none }

def pool26 : Array CpInfo := pool [(1, .methodref 2 3), (0, .class_ 4), (0, .nameAndType 5 6), (0, u "java/util/ImmutableCollections$AbstractImmutableCollection"), (0, u "<init>"), (0, u "()V"), (1, .class_ 10), (1, u "java/util/ImmutableCollections"), (3, .class_ 16), (1, u "java/util/ImmutableCollections$AbstractImmutableList"), (60, .class_ 78), (0, u "java/util/List"), (45, .class_ 125), (0, u "java/util/RandomAccess")] 70

def k26c0 : Code := { maxStack := 1, maxLocals := 1, code := jdk_46_method_1_code, exceptionTable := #[], attributes := #[] }
def k26m0 : Method := { name := "<init>", desc := "()V", sig := { parameters := [], returnType := none }, accessFlags := 0, code := some k26c0 }
/-- java/util/ImmutableCollections$AbstractImmutableList -/
def k26 : Class := { plain "java/util/ImmutableCollections$AbstractImmutableList" (some 25) with
  accessFlags := 1056
  interfaces := #[20, 22]
  cf := some (fileOf pool26 14 #[.nestHost 8] #[{ accessFlags := 0, nameIndex := 5, descriptorIndex := 6, attributes := #[] }] 1056 2 #[77, 124] #[])
  fields := #[]
  methods := #[k26m0]
  instanceTypes := #[]
  staticTypes := #[]
  resolved := Array.replicate 196 none
  statics := none }

def pool27 : Array CpInfo := pool [(1, .methodref 2 3), (0, .class_ 4), (0, .nameAndType 5 6), (0, u "java/util/ImmutableCollections$AbstractImmutableList"), (0, u "<init>"), (0, u "()V"), (0, .methodref 8 9), (0, .class_ 10), (0, .nameAndType 11 12), (0, u "java/util/Objects"), (0, u "requireNonNull"), (0, u "(Ljava/lang/Object;)Ljava/lang/Object;"), (0, .fieldref 14 15), (0, .class_ 16), (0, .nameAndType 17 18), (0, u "java/util/ImmutableCollections$List12"), (0, u "e0"), (0, u "Ljava/lang/Object;"), (0, .fieldref 20 21), (0, .class_ 22), (0, .nameAndType 23 18), (0, u "java/util/ImmutableCollections"), (0, u "EMPTY"), (0, .fieldref 14 25), (0, .nameAndType 26 18), (0, u "e1"), (43, .class_ 71), (0, u "java/io/Serializable"), (4, u "(Ljava/lang/Object;)V")] 48

def k27c0 : Code := { maxStack := 2, maxLocals := 2, code := jdk_44_method_1_code, exceptionTable := #[], attributes := #[] }
def k27m0 : Method := { name := "<init>", desc := "(Ljava/lang/Object;)V", sig := { parameters := [(.object "java/lang/Object")], returnType := none }, accessFlags := 0, code := some k27c0 }
/-- java/util/ImmutableCollections$List12 -/
def k27 : Class := { plain "java/util/ImmutableCollections$List12" (some 26) with
  accessFlags := 48
  interfaces := #[2]
  cf := some (fileOf pool27 14 #[.nestHost 20] #[{ accessFlags := 0, nameIndex := 5, descriptorIndex := 76, attributes := #[] }] 48 2 #[70] #[{ accessFlags := 18, nameIndex := 17, descriptorIndex := 18, attributes := #[] }, { accessFlags := 18, nameIndex := 26, descriptorIndex := 18, attributes := #[] }])
  fields := #[{ name := "e0", type := (.object "java/lang/Object"), accessFlags := 18, slot := 0, constantValue := 0 }, { name := "e1", type := (.object "java/lang/Object"), accessFlags := 18, slot := 1, constantValue := 0 }]
  methods := #[k27m0]
  instanceTypes := #[(.object "java/lang/Object"), (.object "java/lang/Object")]
  staticTypes := #[]
  resolved := Array.replicate 125 none
  statics := none }

def pool28 : Array CpInfo := pool [(2, .class_ 4), (1, u "java/lang/Object"), (0, u "<init>"), (0, u "()V"), (35, .class_ 44), (1, u "java/util/Objects"), (0, u "requireNonNull"), (0, u "(Ljava/lang/Object;)Ljava/lang/Object;")] 137

def k28m0 : Method := { name := "<init>", desc := "()V", sig := { parameters := [], returnType := none }, accessFlags := 2, code := none }
def k28c1 : Code := { maxStack := 2, maxLocals := 1, code := jdk_31_method_10_code, exceptionTable := #[], attributes := #[] }
def k28m1 : Method := { name := "requireNonNull", desc := "(Ljava/lang/Object;)Ljava/lang/Object;", sig := { parameters := [(.object "java/lang/Object")], returnType := some (.object "java/lang/Object") }, accessFlags := 9, code := some k28c1 }
/-- java/util/Objects -/
def k28 : Class := { plain "java/util/Objects" (some 0) with
  accessFlags := 49
  interfaces := #[]
  cf := some (fileOf pool28 42 #[] #[{ accessFlags := 2, nameIndex := 5, descriptorIndex := 6, attributes := #[] }, { accessFlags := 9, nameIndex := 45, descriptorIndex := 46, attributes := #[] }] 49 2 #[] #[])
  fields := #[]
  methods := #[k28m0, k28m1]
  instanceTypes := #[]
  staticTypes := #[]
  resolved := Array.replicate 184 none
  statics := none }

def pool29 : Array CpInfo := pool [(2, .class_ 4), (1, u "java/lang/Object"), (0, u "<init>"), (0, u "()V"), (3, .class_ 11), (0, u "java/util/ImmutableCollections$List12"), (0, .class_ 13), (0, u "java/util/ImmutableCollections$ListN"), (3, u "Z"), (29, .class_ 49), (1, u "java/util/ImmutableCollections"), (0, u "$assertionsDisabled"), (5, u "[Ljava/lang/Object;"), (5, u "EMPTY_LIST"), (0, u "Ljava/util/ImmutableCollections$ListN;"), (8, u "EMPTY_LIST_NULLS"), (22, u "SALT32L"), (0, u "J"), (2, u "REVERSE"), (6, u "archivedObjects"), (2, u "EMPTY"), (0, u "Ljava/lang/Object;"), (0, .class_ 112), (0, u "java/util/ImmutableCollections$SetN"), (5, u "EMPTY_SET"), (0, u "Ljava/util/ImmutableCollections$SetN;"), (0, .class_ 121), (0, u "java/util/ImmutableCollections$MapN"), (3, u "EMPTY_MAP"), (0, u "Ljava/util/ImmutableCollections$MapN;"), (4, u "EXPAND_FACTOR"), (0, u "I"), (36, .class_ 170), (0, u "java/util/ImmutableCollections$MapN$MapNIterator"), (0, .class_ 172), (0, u "java/util/ImmutableCollections$MapN$1"), (0, .class_ 174), (0, u "java/util/ImmutableCollections$Map1"), (0, .class_ 176), (0, u "java/util/ImmutableCollections$AbstractImmutableMap"), (0, .class_ 178), (0, u "java/util/ImmutableCollections$SetN$SetNIterator"), (0, .class_ 180), (0, u "java/util/ImmutableCollections$Set12"), (0, .class_ 182), (0, u "java/util/ImmutableCollections$Set12$1"), (0, .class_ 184), (0, u "java/util/ImmutableCollections$AbstractImmutableSet"), (0, .class_ 186), (0, u "java/util/ImmutableCollections$SubList"), (0, .class_ 188), (0, u "java/util/ImmutableCollections$ListItr"), (0, .class_ 190), (0, u "java/util/ImmutableCollections$AbstractImmutableList"), (0, .class_ 192), (0, u "java/util/ImmutableCollections$AbstractImmutableCollection"), (0, .class_ 194), (0, u "java/util/ImmutableCollections$Access"), (0, .class_ 196), (0, u "java/util/ImmutableCollections$Access$1")] 16

def k29m0 : Method := { name := "<init>", desc := "()V", sig := { parameters := [], returnType := none }, accessFlags := 2, code := none }
/-- java/util/ImmutableCollections -/
def k29 : Class := { plain "java/util/ImmutableCollections" (some 0) with
  accessFlags := 32
  interfaces := #[]
  cf := some (fileOf pool29 47 #[.nestMembers #[120, 169, 171, 173, 175, 111, 177, 179, 181, 183, 12, 10, 185, 187, 189, 191, 193, 195]] #[{ accessFlags := 2, nameIndex := 5, descriptorIndex := 6, attributes := #[] }] 32 2 #[] #[{ accessFlags := 26, nameIndex := 95, descriptorIndex := 96, attributes := #[] }, { accessFlags := 26, nameIndex := 99, descriptorIndex := 17, attributes := #[] }, { accessFlags := 10, nameIndex := 106, descriptorIndex := 56, attributes := #[] }, { accessFlags := 26, nameIndex := 109, descriptorIndex := 110, attributes := #[] }, { accessFlags := 24, nameIndex := 62, descriptorIndex := 63, attributes := #[] }, { accessFlags := 24, nameIndex := 72, descriptorIndex := 63, attributes := #[] }, { accessFlags := 24, nameIndex := 118, descriptorIndex := 119, attributes := #[] }, { accessFlags := 24, nameIndex := 125, descriptorIndex := 126, attributes := #[] }, { accessFlags := 24, nameIndex := 131, descriptorIndex := 132, attributes := #[] }, { accessFlags := 4120, nameIndex := 50, descriptorIndex := 17, attributes := #[] }])
  fields := #[{ name := "SALT32L", type := .long, accessFlags := 26, slot := 0, constantValue := 0 }, { name := "REVERSE", type := .boolean, accessFlags := 26, slot := 1, constantValue := 0 }, { name := "archivedObjects", type := (.array (.object "java/lang/Object")), accessFlags := 10, slot := 2, constantValue := 0 }, { name := "EMPTY", type := (.object "java/lang/Object"), accessFlags := 26, slot := 3, constantValue := 0 }, { name := "EMPTY_LIST", type := (.object "java/util/ImmutableCollections$ListN"), accessFlags := 24, slot := 4, constantValue := 0 }, { name := "EMPTY_LIST_NULLS", type := (.object "java/util/ImmutableCollections$ListN"), accessFlags := 24, slot := 5, constantValue := 0 }, { name := "EMPTY_SET", type := (.object "java/util/ImmutableCollections$SetN"), accessFlags := 24, slot := 6, constantValue := 0 }, { name := "EMPTY_MAP", type := (.object "java/util/ImmutableCollections$MapN"), accessFlags := 24, slot := 7, constantValue := 0 }, { name := "EXPAND_FACTOR", type := .int, accessFlags := 24, slot := 8, constantValue := 0 }, { name := "$assertionsDisabled", type := .boolean, accessFlags := 4120, slot := 9, constantValue := 0 }]
  methods := #[k29m0]
  instanceTypes := #[]
  staticTypes := #[.long, .boolean, (.array (.object "java/lang/Object")), (.object "java/lang/Object"), (.object "java/util/ImmutableCollections$ListN"), (.object "java/util/ImmutableCollections$ListN"), (.object "java/util/ImmutableCollections$SetN"), (.object "java/util/ImmutableCollections$MapN"), .int, .boolean]
  resolved := Array.replicate 213 none
  statics := some 4 }

def pool30 : Array CpInfo := pool [(1, .class_ 2), (0, u "java/util/function/Supplier"), (0, .class_ 4), (0, u "java/lang/Object"), (0, u "get"), (0, u "()Ljava/lang/Object;")] 7

def k30m0 : Method := { name := "get", desc := "()Ljava/lang/Object;", sig := { parameters := [], returnType := some (.object "java/lang/Object") }, accessFlags := 1025, code := none }
/-- java/util/function/Supplier -/
def k30 : Class := { plain "java/util/function/Supplier" (some 0) with
  accessFlags := 1537
  interfaces := #[]
  cf := some (fileOf pool30 1 #[] #[{ accessFlags := 1025, nameIndex := 5, descriptorIndex := 6, attributes := #[] }] 1537 3 #[] #[])
  fields := #[]
  methods := #[k30m0]
  instanceTypes := #[]
  staticTypes := #[]
  resolved := Array.replicate 14 none
  statics := none }

def pool31 : Array CpInfo := pool [(2, .class_ 4), (1, u "java/util/ImmutableCollections$AbstractImmutableList"), (3, .class_ 10), (1, u "java/util/ImmutableCollections$ListN"), (0, u "elements"), (0, u "[Ljava/lang/Object;"), (2, u "allowNulls"), (0, u "Z"), (42, .class_ 60), (0, u "java/io/Serializable"), (53, .class_ 115), (0, u "java/util/ImmutableCollections")] 3

/-- java/util/ImmutableCollections$ListN -/
def k31 : Class := { plain "java/util/ImmutableCollections$ListN" (some 26) with
  accessFlags := 48
  interfaces := #[2]
  cf := some (fileOf pool31 8 #[.nestHost 114] #[] 48 2 #[59] #[{ accessFlags := 18, nameIndex := 11, descriptorIndex := 12, attributes := #[] }, { accessFlags := 18, nameIndex := 15, descriptorIndex := 16, attributes := #[] }])
  fields := #[{ name := "elements", type := (.array (.object "java/lang/Object")), accessFlags := 18, slot := 0, constantValue := 0 }, { name := "allowNulls", type := .boolean, accessFlags := 18, slot := 1, constantValue := 0 }]
  methods := #[]
  instanceTypes := #[(.array (.object "java/lang/Object")), .boolean]
  staticTypes := #[]
  resolved := Array.replicate 119 none
  statics := none }

/-- the primitive byte -/
def k32 : Class := { plain "byte" none with kind := .primitive 'B', accessFlags := 0x411 }
/-- [B -/
def k33 : Class := { plain "[B" (some 0) with kind := .array 32 .byte, interfaces := #[23, 2], accessFlags := 1041 }

/-- the primitive char -/
def k34 : Class := { plain "char" none with kind := .primitive 'C', accessFlags := 0x411 }
/-- [C -/
def k35 : Class := { plain "[C" (some 0) with kind := .array 34 .char, interfaces := #[23, 2], accessFlags := 1041 }

/-- the primitive int -/
def k36 : Class := { plain "int" none with kind := .primitive 'I', accessFlags := 0x411 }
/-- [I -/
def k37 : Class := { plain "[I" (some 0) with kind := .array 36 .int, interfaces := #[23, 2], accessFlags := 1041 }

/-- [Ljava/lang/Object; -/
def k38 : Class := { plain "[Ljava/lang/Object;" (some 0) with kind := .array 0 (.object "java/lang/Object"), interfaces := #[23, 2], accessFlags := 1041 }

/-- [Ljava/lang/String; -/
def k39 : Class := { plain "[Ljava/lang/String;" (some 0) with kind := .array 7 (.object "java/lang/String"), interfaces := #[23, 2], accessFlags := 1041 }

def classes0 : Array Class := #[k0, k1, k2, k3, k4, k5, k6, k7, k8, k9, k10, k11, k12, k13, k14, k15, k16, k17, k18, k19, k20, k21, k22, k23, k24, k25, k26, k27, k28, k29, k30, k31, k32, k33, k34, k35, k36, k37, k38, k39]
/-- the class that the rule has made for the site at 5 of com/example/ply3/ply3/Navigator.parse -/
def k40 : Class := Jvm.LamKit.madeRec { classes := classes0 } "com/example/ply3/ply3/Navigator" (Jvm.Lambda.Shape.mk "java/util/function/Supplier" "get" (Jvm.ClassFile.MethodDescriptor.mk ([] : List Jvm.ClassFile.FieldType) (Option.some (Jvm.ClassFile.FieldType.object "java/lang/Object"))) ([(Jvm.ClassFile.FieldType.object "java/lang/String")] : List Jvm.ClassFile.FieldType) (6 : Nat) "com/example/ply3/ply3/Navigator" "lambda$parse$0" (Jvm.ClassFile.MethodDescriptor.mk ([(Jvm.ClassFile.FieldType.object "java/lang/String")] : List Jvm.ClassFile.FieldType) (Option.some (Jvm.ClassFile.FieldType.object "java/lang/IllegalArgumentException"))) false (Jvm.ClassFile.MethodDescriptor.mk ([] : List Jvm.ClassFile.FieldType) (Option.some (Jvm.ClassFile.FieldType.object "java/lang/IllegalArgumentException")))) 40

def heap : Heap := #[{ cls := 7, slots := #[.long 0, .int 1, .null, .int 0, .null, .int 0, .int 0], vm := .statics 7 },
  { cls := 10, slots := #[.ref 5], vm := .statics 10 },
  { cls := 14, slots := #[.null, .null, .null], vm := .statics 14 },
  { cls := 24, slots := #[.long 0, .int 0, .ref 6, .ref 7], vm := .statics 24 },
  { cls := 29, slots := #[.long 0, .int 0, .null, .ref 8, .ref 9, .null, .null, .null, .int 0, .int 1], vm := .statics 29 },
  { cls := 10, slots := #[.null], vm := .none },
  { cls := 38, slots := #[], vm := .none },
  { cls := 38, slots := #[], vm := .none },
  { cls := 0, slots := #[], vm := .none },
  { cls := 31, slots := #[.null, .int 0], vm := .none }]
def classes : Array Class := #[k0, k1, k2, k3, k4, k5, k6, k7, k8, k9, k10, k11, k12, k13, k14, k15, k16, k17, k18, k19, k20, k21, k22, k23, k24, k25, k26, k27, k28, k29, k30, k31, k32, k33, k34, k35, k36, k37, k38, k39, k40]
def interned : List (Array UInt16 × Addr) := []
def slotsUsed : Nat := 28
def theMethod : MethodId := ⟨1, 1⟩
def args0 : Array Value := #[.int 5, .int 5, .int 5, .int 5]
def aboutOver (below : List Frame) : State where
  vm := { classes := classes, interned := interned.toArray }
  heap := heap
  slotsUsed := slotsUsed
  threads := #[{ frames := .invoking theMethod args0 :: below }]
def below0 : List Frame := [.native { method := ⟨0, 0⟩, args := #[] }]
def about1 : State := aboutOver below0
def p0 : Program := .bare "" "" ""
def e0 : Env := launch0.env 0 0 0
theorem w_frames : about1.frames = Frame.invoking theMethod args0 :: below0 := rfl
set_option maxRecDepth 65536 in
theorem w_args : argsFit about1.vm theMethod args0 = true := by decide +kernel
set_option maxRecDepth 65536 in
theorem w_heap : heapFits about1 = true := by decide +kernel
set_option maxRecDepth 65536 in
theorem w_runnable : about1.curStatus? = some .runnable := by decide +kernel
set_option maxRecDepth 65536 in
theorem w_alone : about1.alone = true := by decide +kernel
set_option maxRecDepth 65536 in
theorem w_named : about1.methodNamed? x = some theMethod := by decide +kernel
set_option maxRecDepth 65536 in
theorem w_hears : about1.hears theMethod below0 = true := by decide +kernel
set_option maxRecDepth 65536 in
theorem w_ripe : about1.ripe theMethod args0 below0 = true := by decide +kernel
theorem w_running : about1.status = .running := rfl
set_option maxRecDepth 65536 in
theorem w_room : about1.hasRoom e0.platform room_1 = true :=
  launch0.hasRoom_least _ room_1 (by decide +kernel) (by decide +kernel) (by decide +kernel) (by decide +kernel) (by decide +kernel) (by decide +kernel)
theorem allAtoms_all (ts : List Jvm.Cond) (a : Array Jvm.Value) (st : Jvm.State) : (allAtoms ts).before a st = ts.all (fun c => c.before a st) := by
  induction ts with
  | nil => rfl
  | cons c t ih =>
    show (Jvm.Cond.and c (allAtoms t)).before a st = _
    rw [Jvm.Cond.before_and, ih, List.all_cons]
def words1 : List Jvm.Cond := Jvm.Cond.code x code maxLocals ret :: tables_1
/-- a 'code' word, met by the world's own term for the bytes: nothing is compared byte by byte -/
theorem code_word {y : MethodName} {bytes : ByteArray} {mx : Nat} {rt : Option FieldType} {a : Array Value} {s : State} {m : MethodId} {meth : Method} {c : Code} (h1 : s.methodNamed? y = some m) (h2 : s.vm.method? m = some meth) (h3 : meth.code = some c) (h4 : c.code = bytes)
    (h5 : (c.maxLocals == mx && c.exceptionTable.isEmpty && decide (c.maxStack ≤ mostOperands) && decide (meth.sig.returnType = rt) && !meth.locks && decide (parseMethodDescriptor y.desc = some meth.sig)) = true) : (Jvm.Cond.code y bytes mx rt).before a s = true := by
  simp only [Bool.and_eq_true, beq_iff_eq, Bool.not_eq_true', decide_eq_true_eq] at h5
  obtain ⟨⟨⟨⟨⟨g1, g2⟩, g3⟩, g4⟩, g5⟩, g6⟩ := h5
  simp [Cond.before, Cond.holds, Cond.value, h1, h2, h3, h4, g1, g2, g3, g4, g5, g6]
def isCode : Jvm.Cond → Bool
  | .code _ _ _ _ => true
  | _ => false
theorem all_split {L : List Jvm.Cond} {P : Jvm.Cond → Bool} (h1 : L.all (fun c => isCode c || P c) = true) (h2 : ∀ c ∈ L.filter isCode, P c = true) : L.all P = true := by
  refine List.all_eq_true.mpr fun c hc => ?_
  have h := List.all_eq_true.mp h1 c hc
  rcases Bool.eq_false_or_eq_true (isCode c) with hi | hi
  · exact h2 c (List.mem_filter.mpr ⟨hc, hi⟩)
  · simpa [hi] using h
set_option maxRecDepth 65536 in
theorem w_c0 : (Jvm.Cond.code x code maxLocals ret).before args0 about1 = true := code_word (m := ⟨1, 1⟩) (meth := k1m1) (c := k1c1) (by decide +kernel) rfl rfl rfl (by decide +kernel)
set_option maxRecDepth 65536 in
theorem w_c1 : (Jvm.Cond.code ({ cls := "com/example/ply3/ply3/NavigatorInternalRedirectPinLaw", name := "name", desc := "(I)Ljava/lang/String;" } : Jvm.MethodName) method_5_code (1 : Nat) (Option.some (Jvm.ClassFile.FieldType.object "java/lang/String"))).before args0 about1 = true := code_word (m := ⟨1, 4⟩) (meth := k1m4) (c := k1c4) (by decide +kernel) rfl rfl rfl (by decide +kernel)
set_option maxRecDepth 65536 in
theorem w_c2 : (Jvm.Cond.code ({ cls := "com/example/ply3/ply3/NavigatorInternalRedirectPinLaw", name := "ch", desc := "(I)C" } : Jvm.MethodName) method_4_code (2 : Nat) (Option.some Jvm.ClassFile.FieldType.char)).before args0 about1 = true := code_word (m := ⟨1, 3⟩) (meth := k1m3) (c := k1c3) (by decide +kernel) rfl rfl rfl (by decide +kernel)
set_option maxRecDepth 65536 in
theorem w_c3 : (Jvm.Cond.code ({ cls := "java/lang/String", name := "<init>", desc := "([C)V" } : Jvm.MethodName) jdk_42_method_3_code (2 : Nat) (Option.none : Option Jvm.ClassFile.FieldType)).before args0 about1 = true := code_word (m := ⟨7, 1⟩) (meth := k7m1) (c := k7c1) (by decide +kernel) rfl rfl rfl (by decide +kernel)
set_option maxRecDepth 65536 in
theorem w_c4 : (Jvm.Cond.code ({ cls := "java/lang/String", name := "<init>", desc := "([CIILjava/lang/Void;)V" } : Jvm.MethodName) jdk_42_method_149_code (6 : Nat) (Option.none : Option Jvm.ClassFile.FieldType)).before args0 about1 = true := code_word (m := ⟨7, 15⟩) (meth := k7m15) (c := k7c15) (by decide +kernel) rfl rfl rfl (by decide +kernel)
set_option maxRecDepth 65536 in
theorem w_c5 : (Jvm.Cond.code ({ cls := "java/lang/Object", name := "<init>", desc := "()V" } : Jvm.MethodName) object_method_1_code (1 : Nat) (Option.none : Option Jvm.ClassFile.FieldType)).before args0 about1 = true := code_word (m := ⟨0, 0⟩) (meth := k0m0) (c := k0c0) (by decide +kernel) rfl rfl rfl (by decide +kernel)
set_option maxRecDepth 65536 in
theorem w_c6 : (Jvm.Cond.code ({ cls := "java/lang/StringUTF16", name := "compress", desc := "([CII)[B" } : Jvm.MethodName) jdk_52_method_16_code (6 : Nat) (Option.some (Jvm.ClassFile.FieldType.array Jvm.ClassFile.FieldType.byte))).before args0 about1 = true := code_word (m := ⟨8, 2⟩) (meth := k8m2) (c := k8c2) (by decide +kernel) rfl rfl rfl (by decide +kernel)
set_option maxRecDepth 65536 in
theorem w_c7 : (Jvm.Cond.code ({ cls := "java/lang/StringUTF16", name := "compress", desc := "([CI[BII)I" } : Jvm.MethodName) jdk_52_method_21_code (7 : Nat) (Option.some Jvm.ClassFile.FieldType.int)).before args0 about1 = true := code_word (m := ⟨8, 3⟩) (meth := k8m3) (c := k8c3) (by decide +kernel) rfl rfl rfl (by decide +kernel)
set_option maxRecDepth 65536 in
theorem w_c8 : (Jvm.Cond.code ({ cls := "java/lang/StringUTF16", name := "coderFromArrayLen", desc := "([BI)B" } : Jvm.MethodName) jdk_52_method_15_code (2 : Nat) (Option.some Jvm.ClassFile.FieldType.byte)).before args0 about1 = true := code_word (m := ⟨8, 1⟩) (meth := k8m1) (c := k8c1) (by decide +kernel) rfl rfl rfl (by decide +kernel)
set_option maxRecDepth 65536 in
theorem w_c9 : (Jvm.Cond.code ({ cls := "com/example/ply3/ply3/Navigator", name := "<init>", desc := "()V" } : Jvm.MethodName) prog_14_method_1_code (1 : Nat) (Option.none : Option Jvm.ClassFile.FieldType)).before args0 about1 = true := code_word (m := ⟨9, 0⟩) (meth := k9m0) (c := k9c0) (by decide +kernel) rfl rfl rfl (by decide +kernel)
set_option maxRecDepth 65536 in
theorem w_c10 : (Jvm.Cond.code ({ cls := "com/example/ply3/ply3/Navigator", name := "internalRedirect", desc := "()Ljava/util/Optional;" } : Jvm.MethodName) prog_14_method_6_code (1 : Nat) (Option.some (Jvm.ClassFile.FieldType.object "java/util/Optional"))).before args0 about1 = true := code_word (m := ⟨9, 4⟩) (meth := k9m4) (c := k9c4) (by decide +kernel) rfl rfl rfl (by decide +kernel)
set_option maxRecDepth 65536 in
theorem w_c11 : (Jvm.Cond.code ({ cls := "java/util/Optional", name := "empty", desc := "()Ljava/util/Optional;" } : Jvm.MethodName) jdk_32_method_1_code (1 : Nat) (Option.some (Jvm.ClassFile.FieldType.object "java/util/Optional"))).before args0 about1 = true := code_word (m := ⟨10, 0⟩) (meth := k10m0) (c := k10c0) (by decide +kernel) rfl rfl rfl (by decide +kernel)
set_option maxRecDepth 65536 in
theorem w_c12 : (Jvm.Cond.code ({ cls := "java/util/Optional", name := "orElse", desc := "(Ljava/lang/Object;)Ljava/lang/Object;" } : Jvm.MethodName) jdk_32_method_15_code (2 : Nat) (Option.some (Jvm.ClassFile.FieldType.object "java/lang/Object"))).before args0 about1 = true := code_word (m := ⟨10, 4⟩) (meth := k10m4) (c := k10c4) (by decide +kernel) rfl rfl rfl (by decide +kernel)
set_option maxRecDepth 65536 in
theorem w_c13 : (Jvm.Cond.code ({ cls := "com/example/ply3/ply3/NavigatorInternalRedirectPinLaw", name := "call", desc := "(Lcom/example/ply3/ply3/Navigator;ZLjava/lang/String;)V" } : Jvm.MethodName) method_3_code (3 : Nat) (Option.none : Option Jvm.ClassFile.FieldType)).before args0 about1 = true := code_word (m := ⟨1, 2⟩) (meth := k1m2) (c := k1c2) (by decide +kernel) rfl rfl rfl (by decide +kernel)
set_option maxRecDepth 65536 in
theorem w_c14 : (Jvm.Cond.code ({ cls := "com/example/ply3/ply3/Navigator", name := "internalRedirectTo", desc := "(Ljava/lang/String;)V" } : Jvm.MethodName) prog_14_method_3_code (2 : Nat) (Option.none : Option Jvm.ClassFile.FieldType)).before args0 about1 = true := code_word (m := ⟨9, 2⟩) (meth := k9m2) (c := k9c2) (by decide +kernel) rfl rfl rfl (by decide +kernel)
set_option maxRecDepth 65536 in
theorem w_c15 : (Jvm.Cond.code ({ cls := "com/example/ply3/ply3/Navigator", name := "parse", desc := "(Ljava/lang/String;)Lcom/example/ply3/ply3/Target;" } : Jvm.MethodName) prog_14_method_4_code (1 : Nat) (Option.some (Jvm.ClassFile.FieldType.object "com/example/ply3/ply3/Target"))).before args0 about1 = true := code_word (m := ⟨9, 3⟩) (meth := k9m3) (c := k9c3) (by decide +kernel) rfl rfl rfl (by decide +kernel)
set_option maxRecDepth 65536 in
theorem w_c16 : (Jvm.Cond.code ({ cls := "com/example/ply3/ply3/Target", name := "parse", desc := "(Ljava/lang/String;)Ljava/util/Optional;" } : Jvm.MethodName) prog_31_method_2_code (3 : Nat) (Option.some (Jvm.ClassFile.FieldType.object "java/util/Optional"))).before args0 about1 = true := code_word (m := ⟨11, 1⟩) (meth := k11m1) (c := k11c1) (by decide +kernel) rfl rfl rfl (by decide +kernel)
set_option maxRecDepth 65536 in
theorem w_c17 : (Jvm.Cond.code ({ cls := "java/lang/String", name := "equals", desc := "(Ljava/lang/Object;)Z" } : Jvm.MethodName) jdk_42_method_66_code (3 : Nat) (Option.some Jvm.ClassFile.FieldType.boolean)).before args0 about1 = true := code_word (m := ⟨7, 5⟩) (meth := k7m5) (c := k7c5) (by decide +kernel) rfl rfl rfl (by decide +kernel)
set_option maxRecDepth 65536 in
theorem w_c18 : (Jvm.Cond.code ({ cls := "java/lang/StringLatin1", name := "equals", desc := "([B[B)Z" } : Jvm.MethodName) jdk_43_method_13_code (3 : Nat) (Option.some Jvm.ClassFile.FieldType.boolean)).before args0 about1 = true := code_word (m := ⟨12, 3⟩) (meth := k12m3) (c := k12c3) (by decide +kernel) rfl rfl rfl (by decide +kernel)
set_option maxRecDepth 65536 in
theorem w_c19 : (Jvm.Cond.code ({ cls := "com/example/ply3/ply3/Target", name := "name", desc := "(Ljava/lang/String;)Ljava/lang/String;" } : Jvm.MethodName) prog_31_method_4_code (3 : Nat) (Option.some (Jvm.ClassFile.FieldType.object "java/lang/String"))).before args0 about1 = true := code_word (m := ⟨11, 2⟩) (meth := k11m2) (c := k11c2) (by decide +kernel) rfl rfl rfl (by decide +kernel)
set_option maxRecDepth 65536 in
theorem w_c20 : (Jvm.Cond.code ({ cls := "java/lang/String", name := "startsWith", desc := "(Ljava/lang/String;)Z" } : Jvm.MethodName) jdk_42_method_76_code (2 : Nat) (Option.some Jvm.ClassFile.FieldType.boolean)).before args0 about1 = true := code_word (m := ⟨7, 7⟩) (meth := k7m7) (c := k7c7) (by decide +kernel) rfl rfl rfl (by decide +kernel)
set_option maxRecDepth 65536 in
theorem w_c21 : (Jvm.Cond.code ({ cls := "java/lang/String", name := "startsWith", desc := "(Ljava/lang/String;I)Z" } : Jvm.MethodName) jdk_42_method_75_code (8 : Nat) (Option.some Jvm.ClassFile.FieldType.boolean)).before args0 about1 = true := code_word (m := ⟨7, 6⟩) (meth := k7m6) (c := k7c6) (by decide +kernel) rfl rfl rfl (by decide +kernel)
set_option maxRecDepth 65536 in
theorem w_c22 : (Jvm.Cond.code ({ cls := "java/lang/String", name := "length", desc := "()I" } : Jvm.MethodName) jdk_42_method_54_code (1 : Nat) (Option.some Jvm.ClassFile.FieldType.int)).before args0 about1 = true := code_word (m := ⟨7, 2⟩) (meth := k7m2) (c := k7c2) (by decide +kernel) rfl rfl rfl (by decide +kernel)
set_option maxRecDepth 65536 in
theorem w_c23 : (Jvm.Cond.code ({ cls := "java/lang/String", name := "coder", desc := "()B" } : Jvm.MethodName) jdk_42_method_152_code (1 : Nat) (Option.some Jvm.ClassFile.FieldType.byte)).before args0 about1 = true := code_word (m := ⟨7, 16⟩) (meth := k7m16) (c := k7c16) (by decide +kernel) rfl rfl rfl (by decide +kernel)
set_option maxRecDepth 65536 in
theorem w_c24 : (Jvm.Cond.code ({ cls := "jdk/internal/util/ArraysSupport", name := "mismatch", desc := "([BI[BII)I" } : Jvm.MethodName) jdk_48_method_14_code (8 : Nat) (Option.some Jvm.ClassFile.FieldType.int)).before args0 about1 = true := code_word (m := ⟨13, 1⟩) (meth := k13m1) (c := k13c1) (by decide +kernel) rfl rfl rfl (by decide +kernel)
set_option maxRecDepth 65536 in
theorem w_c25 : (Jvm.Cond.code ({ cls := "java/lang/String", name := "endsWith", desc := "(Ljava/lang/String;)Z" } : Jvm.MethodName) jdk_42_method_77_code (2 : Nat) (Option.some Jvm.ClassFile.FieldType.boolean)).before args0 about1 = true := code_word (m := ⟨7, 8⟩) (meth := k7m8) (c := k7c8) (by decide +kernel) rfl rfl rfl (by decide +kernel)
set_option maxRecDepth 65536 in
theorem w_c26 : (Jvm.Cond.code ({ cls := "java/lang/String", name := "substring", desc := "(II)Ljava/lang/String;" } : Jvm.MethodName) jdk_42_method_92_code (5 : Nat) (Option.some (Jvm.ClassFile.FieldType.object "java/lang/String"))).before args0 about1 = true := code_word (m := ⟨7, 11⟩) (meth := k7m11) (c := k7c11) (by decide +kernel) rfl rfl rfl (by decide +kernel)
set_option maxRecDepth 65536 in
theorem w_c27 : (Jvm.Cond.code ({ cls := "java/lang/String", name := "checkBoundsBeginEnd", desc := "(III)V" } : Jvm.MethodName) jdk_42_method_158_code (3 : Nat) (Option.none : Option Jvm.ClassFile.FieldType)).before args0 about1 = true := code_word (m := ⟨7, 19⟩) (meth := k7m19) (c := k7c19) (by decide +kernel) rfl rfl rfl (by decide +kernel)
set_option maxRecDepth 65536 in
theorem w_c28 : (Jvm.Cond.code ({ cls := "jdk/internal/util/Preconditions", name := "checkFromToIndex", desc := "(IIILjava/util/function/BiFunction;)I" } : Jvm.MethodName) jdk_41_method_12_code (4 : Nat) (Option.some Jvm.ClassFile.FieldType.int)).before args0 about1 = true := code_word (m := ⟨14, 2⟩) (meth := k14m2) (c := k14c2) (by decide +kernel) rfl rfl rfl (by decide +kernel)
set_option maxRecDepth 65536 in
theorem w_c29 : (Jvm.Cond.code ({ cls := "java/lang/String", name := "split", desc := "(Ljava/lang/String;I)[Ljava/lang/String;" } : Jvm.MethodName) jdk_42_method_101_code (3 : Nat) (Option.some (Jvm.ClassFile.FieldType.array (Jvm.ClassFile.FieldType.object "java/lang/String")))).before args0 about1 = true := code_word (m := ⟨7, 12⟩) (meth := k7m12) (c := k7c12) (by decide +kernel) rfl rfl rfl (by decide +kernel)
set_option maxRecDepth 65536 in
theorem w_c30 : (Jvm.Cond.code ({ cls := "java/lang/String", name := "split", desc := "(Ljava/lang/String;IZ)[Ljava/lang/String;" } : Jvm.MethodName) jdk_42_method_103_code (6 : Nat) (Option.some (Jvm.ClassFile.FieldType.array (Jvm.ClassFile.FieldType.object "java/lang/String")))).before args0 about1 = true := code_word (m := ⟨7, 13⟩) (meth := k7m13) (c := k7c13) (by decide +kernel) rfl rfl rfl (by decide +kernel)
set_option maxRecDepth 65536 in
theorem w_c31 : (Jvm.Cond.code ({ cls := "java/lang/String", name := "charAt", desc := "(I)C" } : Jvm.MethodName) jdk_42_method_56_code (2 : Nat) (Option.some Jvm.ClassFile.FieldType.char)).before args0 about1 = true := code_word (m := ⟨7, 4⟩) (meth := k7m4) (c := k7c4) (by decide +kernel) rfl rfl rfl (by decide +kernel)
set_option maxRecDepth 65536 in
theorem w_c32 : (Jvm.Cond.code ({ cls := "java/lang/String", name := "isLatin1", desc := "()Z" } : Jvm.MethodName) jdk_42_method_154_code (1 : Nat) (Option.some Jvm.ClassFile.FieldType.boolean)).before args0 about1 = true := code_word (m := ⟨7, 17⟩) (meth := k7m17) (c := k7c17) (by decide +kernel) rfl rfl rfl (by decide +kernel)
set_option maxRecDepth 65536 in
theorem w_c33 : (Jvm.Cond.code ({ cls := "java/lang/StringLatin1", name := "charAt", desc := "([BI)C" } : Jvm.MethodName) jdk_43_method_2_code (2 : Nat) (Option.some Jvm.ClassFile.FieldType.char)).before args0 about1 = true := code_word (m := ⟨12, 1⟩) (meth := k12m1) (c := k12c1) (by decide +kernel) rfl rfl rfl (by decide +kernel)
set_option maxRecDepth 65536 in
theorem w_c34 : (Jvm.Cond.code ({ cls := "java/lang/String", name := "checkIndex", desc := "(II)V" } : Jvm.MethodName) jdk_42_method_155_code (2 : Nat) (Option.none : Option Jvm.ClassFile.FieldType)).before args0 about1 = true := code_word (m := ⟨7, 18⟩) (meth := k7m18) (c := k7c18) (by decide +kernel) rfl rfl rfl (by decide +kernel)
set_option maxRecDepth 65536 in
theorem w_c35 : (Jvm.Cond.code ({ cls := "jdk/internal/util/Preconditions", name := "checkIndex", desc := "(IILjava/util/function/BiFunction;)I" } : Jvm.MethodName) jdk_41_method_11_code (3 : Nat) (Option.some Jvm.ClassFile.FieldType.int)).before args0 about1 = true := code_word (m := ⟨14, 1⟩) (meth := k14m1) (c := k14c1) (by decide +kernel) rfl rfl rfl (by decide +kernel)
set_option maxRecDepth 65536 in
theorem w_c36 : (Jvm.Cond.code ({ cls := "java/lang/String", name := "indexOf", desc := "(I)I" } : Jvm.MethodName) jdk_42_method_79_code (2 : Nat) (Option.some Jvm.ClassFile.FieldType.int)).before args0 about1 = true := code_word (m := ⟨7, 9⟩) (meth := k7m9) (c := k7c9) (by decide +kernel) rfl rfl rfl (by decide +kernel)
set_option maxRecDepth 65536 in
theorem w_c37 : (Jvm.Cond.code ({ cls := "java/lang/String", name := "indexOf", desc := "(II)I" } : Jvm.MethodName) jdk_42_method_80_code (3 : Nat) (Option.some Jvm.ClassFile.FieldType.int)).before args0 about1 = true := code_word (m := ⟨7, 10⟩) (meth := k7m10) (c := k7c10) (by decide +kernel) rfl rfl rfl (by decide +kernel)
set_option maxRecDepth 65536 in
theorem w_c38 : (Jvm.Cond.code ({ cls := "java/lang/StringLatin1", name := "indexOf", desc := "([BIII)I" } : Jvm.MethodName) jdk_43_method_22_code (4 : Nat) (Option.some Jvm.ClassFile.FieldType.int)).before args0 about1 = true := code_word (m := ⟨12, 4⟩) (meth := k12m4) (c := k12c4) (by decide +kernel) rfl rfl rfl (by decide +kernel)
set_option maxRecDepth 65536 in
theorem w_c39 : (Jvm.Cond.code ({ cls := "java/lang/StringLatin1", name := "canEncode", desc := "(I)Z" } : Jvm.MethodName) jdk_43_method_4_code (1 : Nat) (Option.some Jvm.ClassFile.FieldType.boolean)).before args0 about1 = true := code_word (m := ⟨12, 2⟩) (meth := k12m2) (c := k12c2) (by decide +kernel) rfl rfl rfl (by decide +kernel)
set_option maxRecDepth 65536 in
theorem w_c40 : (Jvm.Cond.code ({ cls := "java/lang/Math", name := "max", desc := "(II)I" } : Jvm.MethodName) jdk_29_method_65_code (2 : Nat) (Option.some Jvm.ClassFile.FieldType.int)).before args0 about1 = true := code_word (m := ⟨15, 1⟩) (meth := k15m1) (c := k15c1) (by decide +kernel) rfl rfl rfl (by decide +kernel)
set_option maxRecDepth 65536 in
theorem w_c41 : (Jvm.Cond.code ({ cls := "java/lang/Math", name := "min", desc := "(II)I" } : Jvm.MethodName) jdk_29_method_69_code (2 : Nat) (Option.some Jvm.ClassFile.FieldType.int)).before args0 about1 = true := code_word (m := ⟨15, 2⟩) (meth := k15m2) (c := k15c2) (by decide +kernel) rfl rfl rfl (by decide +kernel)
set_option maxRecDepth 65536 in
theorem w_c42 : (Jvm.Cond.code ({ cls := "java/lang/StringLatin1", name := "indexOfChar", desc := "([BIII)I" } : Jvm.MethodName) jdk_43_method_23_code (6 : Nat) (Option.some Jvm.ClassFile.FieldType.int)).before args0 about1 = true := code_word (m := ⟨12, 5⟩) (meth := k12m5) (c := k12c5) (by decide +kernel) rfl rfl rfl (by decide +kernel)
set_option maxRecDepth 65536 in
theorem w_c43 : (Jvm.Cond.code ({ cls := "java/lang/String", name := "split", desc := "(CIZ)[Ljava/lang/String;" } : Jvm.MethodName) jdk_42_method_104_code (12 : Nat) (Option.some (Jvm.ClassFile.FieldType.array (Jvm.ClassFile.FieldType.object "java/lang/String")))).before args0 about1 = true := code_word (m := ⟨7, 14⟩) (meth := k7m14) (c := k7c14) (by decide +kernel) rfl rfl rfl (by decide +kernel)
set_option maxRecDepth 65536 in
theorem w_c44 : (Jvm.Cond.code ({ cls := "java/util/ArrayList", name := "<init>", desc := "()V" } : Jvm.MethodName) jdk_38_method_2_code (1 : Nat) (Option.none : Option Jvm.ClassFile.FieldType)).before args0 about1 = true := code_word (m := ⟨24, 0⟩) (meth := k24m0) (c := k24c0) (by decide +kernel) rfl rfl rfl (by decide +kernel)
set_option maxRecDepth 65536 in
theorem w_c45 : (Jvm.Cond.code ({ cls := "java/util/AbstractList", name := "<init>", desc := "()V" } : Jvm.MethodName) jdk_39_method_1_code (1 : Nat) (Option.none : Option Jvm.ClassFile.FieldType)).before args0 about1 = true := code_word (m := ⟨21, 0⟩) (meth := k21m0) (c := k21c0) (by decide +kernel) rfl rfl rfl (by decide +kernel)
set_option maxRecDepth 65536 in
theorem w_c46 : (Jvm.Cond.code ({ cls := "java/util/AbstractCollection", name := "<init>", desc := "()V" } : Jvm.MethodName) jdk_22_method_1_code (1 : Nat) (Option.none : Option Jvm.ClassFile.FieldType)).before args0 about1 = true := code_word (m := ⟨18, 0⟩) (meth := k18m0) (c := k18c0) (by decide +kernel) rfl rfl rfl (by decide +kernel)
set_option maxRecDepth 65536 in
theorem w_c47 : (Jvm.Cond.code ({ cls := "com/example/ply3/ply3/Target", name := "firstInvalid", desc := "([Ljava/lang/String;)I" } : Jvm.MethodName) prog_31_method_5_code (2 : Nat) (Option.some Jvm.ClassFile.FieldType.int)).before args0 about1 = true := code_word (m := ⟨11, 3⟩) (meth := k11m3) (c := k11c3) (by decide +kernel) rfl rfl rfl (by decide +kernel)
set_option maxRecDepth 65536 in
theorem w_c48 : (Jvm.Cond.code ({ cls := "com/example/ply3/ply3/Target", name := "isSegment", desc := "(Ljava/lang/String;)Z" } : Jvm.MethodName) prog_31_method_6_code (2 : Nat) (Option.some Jvm.ClassFile.FieldType.boolean)).before args0 about1 = true := code_word (m := ⟨11, 4⟩) (meth := k11m4) (c := k11c4) (by decide +kernel) rfl rfl rfl (by decide +kernel)
set_option maxRecDepth 65536 in
theorem w_c49 : (Jvm.Cond.code ({ cls := "java/lang/String", name := "isEmpty", desc := "()Z" } : Jvm.MethodName) jdk_42_method_55_code (1 : Nat) (Option.some Jvm.ClassFile.FieldType.boolean)).before args0 about1 = true := code_word (m := ⟨7, 3⟩) (meth := k7m3) (c := k7c3) (by decide +kernel) rfl rfl rfl (by decide +kernel)
set_option maxRecDepth 65536 in
theorem w_c50 : (Jvm.Cond.code ({ cls := "com/example/ply3/ply3/Target", name := "isAllowed", desc := "(C)Z" } : Jvm.MethodName) prog_31_method_7_code (1 : Nat) (Option.some Jvm.ClassFile.FieldType.boolean)).before args0 about1 = true := code_word (m := ⟨11, 5⟩) (meth := k11m5) (c := k11c5) (by decide +kernel) rfl rfl rfl (by decide +kernel)
set_option maxRecDepth 65536 in
theorem w_c51 : (Jvm.Cond.code ({ cls := "java/util/List", name := "of", desc := "([Ljava/lang/Object;)Ljava/util/List;" } : Jvm.MethodName) jdk_40_method_47_code (2 : Nat) (Option.some (Jvm.ClassFile.FieldType.object "java/util/List"))).before args0 about1 = true := code_word (m := ⟨20, 0⟩) (meth := k20m0) (c := k20c0) (by decide +kernel) rfl rfl rfl (by decide +kernel)
set_option maxRecDepth 65536 in
theorem w_c52 : (Jvm.Cond.code ({ cls := "java/util/ImmutableCollections$List12", name := "<init>", desc := "(Ljava/lang/Object;)V" } : Jvm.MethodName) jdk_44_method_1_code (2 : Nat) (Option.none : Option Jvm.ClassFile.FieldType)).before args0 about1 = true := code_word (m := ⟨27, 0⟩) (meth := k27m0) (c := k27c0) (by decide +kernel) rfl rfl rfl (by decide +kernel)
set_option maxRecDepth 65536 in
theorem w_c53 : (Jvm.Cond.code ({ cls := "java/util/ImmutableCollections$AbstractImmutableList", name := "<init>", desc := "()V" } : Jvm.MethodName) jdk_46_method_1_code (1 : Nat) (Option.none : Option Jvm.ClassFile.FieldType)).before args0 about1 = true := code_word (m := ⟨26, 0⟩) (meth := k26m0) (c := k26c0) (by decide +kernel) rfl rfl rfl (by decide +kernel)
set_option maxRecDepth 65536 in
theorem w_c54 : (Jvm.Cond.code ({ cls := "java/util/ImmutableCollections$AbstractImmutableCollection", name := "<init>", desc := "()V" } : Jvm.MethodName) jdk_47_method_1_code (1 : Nat) (Option.none : Option Jvm.ClassFile.FieldType)).before args0 about1 = true := code_word (m := ⟨25, 0⟩) (meth := k25m0) (c := k25c0) (by decide +kernel) rfl rfl rfl (by decide +kernel)
set_option maxRecDepth 65536 in
theorem w_c55 : (Jvm.Cond.code ({ cls := "java/util/Objects", name := "requireNonNull", desc := "(Ljava/lang/Object;)Ljava/lang/Object;" } : Jvm.MethodName) jdk_31_method_10_code (1 : Nat) (Option.some (Jvm.ClassFile.FieldType.object "java/lang/Object"))).before args0 about1 = true := code_word (m := ⟨28, 1⟩) (meth := k28m1) (c := k28c1) (by decide +kernel) rfl rfl rfl (by decide +kernel)
set_option maxRecDepth 65536 in
theorem w_c56 : (Jvm.Cond.code ({ cls := "com/example/ply3/ply3/Target", name := "<init>", desc := "(Ljava/lang/String;Ljava/util/List;)V" } : Jvm.MethodName) prog_31_method_1_code (3 : Nat) (Option.none : Option Jvm.ClassFile.FieldType)).before args0 about1 = true := code_word (m := ⟨11, 0⟩) (meth := k11m0) (c := k11c0) (by decide +kernel) rfl rfl rfl (by decide +kernel)
set_option maxRecDepth 65536 in
theorem w_c57 : (Jvm.Cond.code ({ cls := "java/util/Optional", name := "of", desc := "(Ljava/lang/Object;)Ljava/util/Optional;" } : Jvm.MethodName) jdk_32_method_3_code (1 : Nat) (Option.some (Jvm.ClassFile.FieldType.object "java/util/Optional"))).before args0 about1 = true := code_word (m := ⟨10, 2⟩) (meth := k10m2) (c := k10c2) (by decide +kernel) rfl rfl rfl (by decide +kernel)
set_option maxRecDepth 65536 in
theorem w_c58 : (Jvm.Cond.code ({ cls := "java/util/Optional", name := "<init>", desc := "(Ljava/lang/Object;)V" } : Jvm.MethodName) jdk_32_method_2_code (2 : Nat) (Option.none : Option Jvm.ClassFile.FieldType)).before args0 about1 = true := code_word (m := ⟨10, 1⟩) (meth := k10m1) (c := k10c1) (by decide +kernel) rfl rfl rfl (by decide +kernel)
set_option maxRecDepth 65536 in
theorem w_c59 : (Jvm.Cond.code ({ cls := "java/util/Optional", name := "orElseThrow", desc := "(Ljava/util/function/Supplier;)Ljava/lang/Object;" } : Jvm.MethodName) jdk_32_method_18_code (2 : Nat) (Option.some (Jvm.ClassFile.FieldType.object "java/lang/Object"))).before args0 about1 = true := code_word (m := ⟨10, 5⟩) (meth := k10m5) (c := k10c5) (by decide +kernel) rfl rfl rfl (by decide +kernel)
set_option maxRecDepth 65536 in
theorem w_c60 : (Jvm.Cond.code ({ cls := "com/example/ply3/ply3/Navigator", name := "redirectTo", desc := "(Ljava/lang/String;)V" } : Jvm.MethodName) prog_14_method_2_code (2 : Nat) (Option.none : Option Jvm.ClassFile.FieldType)).before args0 about1 = true := code_word (m := ⟨9, 1⟩) (meth := k9m1) (c := k9c1) (by decide +kernel) rfl rfl rfl (by decide +kernel)
set_option maxRecDepth 65536 in
theorem w_c61 : (Jvm.Cond.code ({ cls := "java/util/Optional", name := "ofNullable", desc := "(Ljava/lang/Object;)Ljava/util/Optional;" } : Jvm.MethodName) jdk_32_method_4_code (1 : Nat) (Option.some (Jvm.ClassFile.FieldType.object "java/util/Optional"))).before args0 about1 = true := code_word (m := ⟨10, 3⟩) (meth := k10m3) (c := k10c3) (by decide +kernel) rfl rfl rfl (by decide +kernel)
set_option maxRecDepth 65536 in
theorem w_c62 : (Jvm.Cond.code ({ cls := "com/example/ply3/ply3/Target", name := "name", desc := "()Ljava/lang/String;" } : Jvm.MethodName) prog_31_method_8_code (1 : Nat) (Option.some (Jvm.ClassFile.FieldType.object "java/lang/String"))).before args0 about1 = true := code_word (m := ⟨11, 6⟩) (meth := k11m6) (c := k11c6) (by decide +kernel) rfl rfl rfl (by decide +kernel)
def codes1 : List Jvm.Cond := [Jvm.Cond.code x code maxLocals ret, Jvm.Cond.code ({ cls := "com/example/ply3/ply3/NavigatorInternalRedirectPinLaw", name := "name", desc := "(I)Ljava/lang/String;" } : Jvm.MethodName) method_5_code (1 : Nat) (Option.some (Jvm.ClassFile.FieldType.object "java/lang/String")), Jvm.Cond.code ({ cls := "com/example/ply3/ply3/NavigatorInternalRedirectPinLaw", name := "ch", desc := "(I)C" } : Jvm.MethodName) method_4_code (2 : Nat) (Option.some Jvm.ClassFile.FieldType.char), Jvm.Cond.code ({ cls := "java/lang/String", name := "<init>", desc := "([C)V" } : Jvm.MethodName) jdk_42_method_3_code (2 : Nat) (Option.none : Option Jvm.ClassFile.FieldType), Jvm.Cond.code ({ cls := "java/lang/String", name := "<init>", desc := "([CIILjava/lang/Void;)V" } : Jvm.MethodName) jdk_42_method_149_code (6 : Nat) (Option.none : Option Jvm.ClassFile.FieldType), Jvm.Cond.code ({ cls := "java/lang/Object", name := "<init>", desc := "()V" } : Jvm.MethodName) object_method_1_code (1 : Nat) (Option.none : Option Jvm.ClassFile.FieldType), Jvm.Cond.code ({ cls := "java/lang/StringUTF16", name := "compress", desc := "([CII)[B" } : Jvm.MethodName) jdk_52_method_16_code (6 : Nat) (Option.some (Jvm.ClassFile.FieldType.array Jvm.ClassFile.FieldType.byte)), Jvm.Cond.code ({ cls := "java/lang/StringUTF16", name := "compress", desc := "([CI[BII)I" } : Jvm.MethodName) jdk_52_method_21_code (7 : Nat) (Option.some Jvm.ClassFile.FieldType.int), Jvm.Cond.code ({ cls := "java/lang/StringUTF16", name := "coderFromArrayLen", desc := "([BI)B" } : Jvm.MethodName) jdk_52_method_15_code (2 : Nat) (Option.some Jvm.ClassFile.FieldType.byte), Jvm.Cond.code ({ cls := "com/example/ply3/ply3/Navigator", name := "<init>", desc := "()V" } : Jvm.MethodName) prog_14_method_1_code (1 : Nat) (Option.none : Option Jvm.ClassFile.FieldType), Jvm.Cond.code ({ cls := "com/example/ply3/ply3/Navigator", name := "internalRedirect", desc := "()Ljava/util/Optional;" } : Jvm.MethodName) prog_14_method_6_code (1 : Nat) (Option.some (Jvm.ClassFile.FieldType.object "java/util/Optional")), Jvm.Cond.code ({ cls := "java/util/Optional", name := "empty", desc := "()Ljava/util/Optional;" } : Jvm.MethodName) jdk_32_method_1_code (1 : Nat) (Option.some (Jvm.ClassFile.FieldType.object "java/util/Optional")), Jvm.Cond.code ({ cls := "java/util/Optional", name := "orElse", desc := "(Ljava/lang/Object;)Ljava/lang/Object;" } : Jvm.MethodName) jdk_32_method_15_code (2 : Nat) (Option.some (Jvm.ClassFile.FieldType.object "java/lang/Object")), Jvm.Cond.code ({ cls := "com/example/ply3/ply3/NavigatorInternalRedirectPinLaw", name := "call", desc := "(Lcom/example/ply3/ply3/Navigator;ZLjava/lang/String;)V" } : Jvm.MethodName) method_3_code (3 : Nat) (Option.none : Option Jvm.ClassFile.FieldType), Jvm.Cond.code ({ cls := "com/example/ply3/ply3/Navigator", name := "internalRedirectTo", desc := "(Ljava/lang/String;)V" } : Jvm.MethodName) prog_14_method_3_code (2 : Nat) (Option.none : Option Jvm.ClassFile.FieldType), Jvm.Cond.code ({ cls := "com/example/ply3/ply3/Navigator", name := "parse", desc := "(Ljava/lang/String;)Lcom/example/ply3/ply3/Target;" } : Jvm.MethodName) prog_14_method_4_code (1 : Nat) (Option.some (Jvm.ClassFile.FieldType.object "com/example/ply3/ply3/Target")), Jvm.Cond.code ({ cls := "com/example/ply3/ply3/Target", name := "parse", desc := "(Ljava/lang/String;)Ljava/util/Optional;" } : Jvm.MethodName) prog_31_method_2_code (3 : Nat) (Option.some (Jvm.ClassFile.FieldType.object "java/util/Optional")), Jvm.Cond.code ({ cls := "java/lang/String", name := "equals", desc := "(Ljava/lang/Object;)Z" } : Jvm.MethodName) jdk_42_method_66_code (3 : Nat) (Option.some Jvm.ClassFile.FieldType.boolean), Jvm.Cond.code ({ cls := "java/lang/StringLatin1", name := "equals", desc := "([B[B)Z" } : Jvm.MethodName) jdk_43_method_13_code (3 : Nat) (Option.some Jvm.ClassFile.FieldType.boolean), Jvm.Cond.code ({ cls := "com/example/ply3/ply3/Target", name := "name", desc := "(Ljava/lang/String;)Ljava/lang/String;" } : Jvm.MethodName) prog_31_method_4_code (3 : Nat) (Option.some (Jvm.ClassFile.FieldType.object "java/lang/String")), Jvm.Cond.code ({ cls := "java/lang/String", name := "startsWith", desc := "(Ljava/lang/String;)Z" } : Jvm.MethodName) jdk_42_method_76_code (2 : Nat) (Option.some Jvm.ClassFile.FieldType.boolean), Jvm.Cond.code ({ cls := "java/lang/String", name := "startsWith", desc := "(Ljava/lang/String;I)Z" } : Jvm.MethodName) jdk_42_method_75_code (8 : Nat) (Option.some Jvm.ClassFile.FieldType.boolean), Jvm.Cond.code ({ cls := "java/lang/String", name := "length", desc := "()I" } : Jvm.MethodName) jdk_42_method_54_code (1 : Nat) (Option.some Jvm.ClassFile.FieldType.int), Jvm.Cond.code ({ cls := "java/lang/String", name := "coder", desc := "()B" } : Jvm.MethodName) jdk_42_method_152_code (1 : Nat) (Option.some Jvm.ClassFile.FieldType.byte), Jvm.Cond.code ({ cls := "jdk/internal/util/ArraysSupport", name := "mismatch", desc := "([BI[BII)I" } : Jvm.MethodName) jdk_48_method_14_code (8 : Nat) (Option.some Jvm.ClassFile.FieldType.int), Jvm.Cond.code ({ cls := "java/lang/String", name := "endsWith", desc := "(Ljava/lang/String;)Z" } : Jvm.MethodName) jdk_42_method_77_code (2 : Nat) (Option.some Jvm.ClassFile.FieldType.boolean), Jvm.Cond.code ({ cls := "java/lang/String", name := "substring", desc := "(II)Ljava/lang/String;" } : Jvm.MethodName) jdk_42_method_92_code (5 : Nat) (Option.some (Jvm.ClassFile.FieldType.object "java/lang/String")), Jvm.Cond.code ({ cls := "java/lang/String", name := "checkBoundsBeginEnd", desc := "(III)V" } : Jvm.MethodName) jdk_42_method_158_code (3 : Nat) (Option.none : Option Jvm.ClassFile.FieldType), Jvm.Cond.code ({ cls := "jdk/internal/util/Preconditions", name := "checkFromToIndex", desc := "(IIILjava/util/function/BiFunction;)I" } : Jvm.MethodName) jdk_41_method_12_code (4 : Nat) (Option.some Jvm.ClassFile.FieldType.int), Jvm.Cond.code ({ cls := "java/lang/String", name := "split", desc := "(Ljava/lang/String;I)[Ljava/lang/String;" } : Jvm.MethodName) jdk_42_method_101_code (3 : Nat) (Option.some (Jvm.ClassFile.FieldType.array (Jvm.ClassFile.FieldType.object "java/lang/String"))), Jvm.Cond.code ({ cls := "java/lang/String", name := "split", desc := "(Ljava/lang/String;IZ)[Ljava/lang/String;" } : Jvm.MethodName) jdk_42_method_103_code (6 : Nat) (Option.some (Jvm.ClassFile.FieldType.array (Jvm.ClassFile.FieldType.object "java/lang/String"))), Jvm.Cond.code ({ cls := "java/lang/String", name := "charAt", desc := "(I)C" } : Jvm.MethodName) jdk_42_method_56_code (2 : Nat) (Option.some Jvm.ClassFile.FieldType.char), Jvm.Cond.code ({ cls := "java/lang/String", name := "isLatin1", desc := "()Z" } : Jvm.MethodName) jdk_42_method_154_code (1 : Nat) (Option.some Jvm.ClassFile.FieldType.boolean), Jvm.Cond.code ({ cls := "java/lang/StringLatin1", name := "charAt", desc := "([BI)C" } : Jvm.MethodName) jdk_43_method_2_code (2 : Nat) (Option.some Jvm.ClassFile.FieldType.char), Jvm.Cond.code ({ cls := "java/lang/String", name := "checkIndex", desc := "(II)V" } : Jvm.MethodName) jdk_42_method_155_code (2 : Nat) (Option.none : Option Jvm.ClassFile.FieldType), Jvm.Cond.code ({ cls := "jdk/internal/util/Preconditions", name := "checkIndex", desc := "(IILjava/util/function/BiFunction;)I" } : Jvm.MethodName) jdk_41_method_11_code (3 : Nat) (Option.some Jvm.ClassFile.FieldType.int), Jvm.Cond.code ({ cls := "java/lang/String", name := "indexOf", desc := "(I)I" } : Jvm.MethodName) jdk_42_method_79_code (2 : Nat) (Option.some Jvm.ClassFile.FieldType.int), Jvm.Cond.code ({ cls := "java/lang/String", name := "indexOf", desc := "(II)I" } : Jvm.MethodName) jdk_42_method_80_code (3 : Nat) (Option.some Jvm.ClassFile.FieldType.int), Jvm.Cond.code ({ cls := "java/lang/StringLatin1", name := "indexOf", desc := "([BIII)I" } : Jvm.MethodName) jdk_43_method_22_code (4 : Nat) (Option.some Jvm.ClassFile.FieldType.int), Jvm.Cond.code ({ cls := "java/lang/StringLatin1", name := "canEncode", desc := "(I)Z" } : Jvm.MethodName) jdk_43_method_4_code (1 : Nat) (Option.some Jvm.ClassFile.FieldType.boolean), Jvm.Cond.code ({ cls := "java/lang/Math", name := "max", desc := "(II)I" } : Jvm.MethodName) jdk_29_method_65_code (2 : Nat) (Option.some Jvm.ClassFile.FieldType.int), Jvm.Cond.code ({ cls := "java/lang/Math", name := "min", desc := "(II)I" } : Jvm.MethodName) jdk_29_method_69_code (2 : Nat) (Option.some Jvm.ClassFile.FieldType.int), Jvm.Cond.code ({ cls := "java/lang/StringLatin1", name := "indexOfChar", desc := "([BIII)I" } : Jvm.MethodName) jdk_43_method_23_code (6 : Nat) (Option.some Jvm.ClassFile.FieldType.int), Jvm.Cond.code ({ cls := "java/lang/String", name := "split", desc := "(CIZ)[Ljava/lang/String;" } : Jvm.MethodName) jdk_42_method_104_code (12 : Nat) (Option.some (Jvm.ClassFile.FieldType.array (Jvm.ClassFile.FieldType.object "java/lang/String"))), Jvm.Cond.code ({ cls := "java/util/ArrayList", name := "<init>", desc := "()V" } : Jvm.MethodName) jdk_38_method_2_code (1 : Nat) (Option.none : Option Jvm.ClassFile.FieldType), Jvm.Cond.code ({ cls := "java/util/AbstractList", name := "<init>", desc := "()V" } : Jvm.MethodName) jdk_39_method_1_code (1 : Nat) (Option.none : Option Jvm.ClassFile.FieldType), Jvm.Cond.code ({ cls := "java/util/AbstractCollection", name := "<init>", desc := "()V" } : Jvm.MethodName) jdk_22_method_1_code (1 : Nat) (Option.none : Option Jvm.ClassFile.FieldType), Jvm.Cond.code ({ cls := "com/example/ply3/ply3/Target", name := "firstInvalid", desc := "([Ljava/lang/String;)I" } : Jvm.MethodName) prog_31_method_5_code (2 : Nat) (Option.some Jvm.ClassFile.FieldType.int), Jvm.Cond.code ({ cls := "com/example/ply3/ply3/Target", name := "isSegment", desc := "(Ljava/lang/String;)Z" } : Jvm.MethodName) prog_31_method_6_code (2 : Nat) (Option.some Jvm.ClassFile.FieldType.boolean), Jvm.Cond.code ({ cls := "java/lang/String", name := "isEmpty", desc := "()Z" } : Jvm.MethodName) jdk_42_method_55_code (1 : Nat) (Option.some Jvm.ClassFile.FieldType.boolean), Jvm.Cond.code ({ cls := "com/example/ply3/ply3/Target", name := "isAllowed", desc := "(C)Z" } : Jvm.MethodName) prog_31_method_7_code (1 : Nat) (Option.some Jvm.ClassFile.FieldType.boolean), Jvm.Cond.code ({ cls := "java/util/List", name := "of", desc := "([Ljava/lang/Object;)Ljava/util/List;" } : Jvm.MethodName) jdk_40_method_47_code (2 : Nat) (Option.some (Jvm.ClassFile.FieldType.object "java/util/List")), Jvm.Cond.code ({ cls := "java/util/ImmutableCollections$List12", name := "<init>", desc := "(Ljava/lang/Object;)V" } : Jvm.MethodName) jdk_44_method_1_code (2 : Nat) (Option.none : Option Jvm.ClassFile.FieldType), Jvm.Cond.code ({ cls := "java/util/ImmutableCollections$AbstractImmutableList", name := "<init>", desc := "()V" } : Jvm.MethodName) jdk_46_method_1_code (1 : Nat) (Option.none : Option Jvm.ClassFile.FieldType), Jvm.Cond.code ({ cls := "java/util/ImmutableCollections$AbstractImmutableCollection", name := "<init>", desc := "()V" } : Jvm.MethodName) jdk_47_method_1_code (1 : Nat) (Option.none : Option Jvm.ClassFile.FieldType), Jvm.Cond.code ({ cls := "java/util/Objects", name := "requireNonNull", desc := "(Ljava/lang/Object;)Ljava/lang/Object;" } : Jvm.MethodName) jdk_31_method_10_code (1 : Nat) (Option.some (Jvm.ClassFile.FieldType.object "java/lang/Object")), Jvm.Cond.code ({ cls := "com/example/ply3/ply3/Target", name := "<init>", desc := "(Ljava/lang/String;Ljava/util/List;)V" } : Jvm.MethodName) prog_31_method_1_code (3 : Nat) (Option.none : Option Jvm.ClassFile.FieldType), Jvm.Cond.code ({ cls := "java/util/Optional", name := "of", desc := "(Ljava/lang/Object;)Ljava/util/Optional;" } : Jvm.MethodName) jdk_32_method_3_code (1 : Nat) (Option.some (Jvm.ClassFile.FieldType.object "java/util/Optional")), Jvm.Cond.code ({ cls := "java/util/Optional", name := "<init>", desc := "(Ljava/lang/Object;)V" } : Jvm.MethodName) jdk_32_method_2_code (2 : Nat) (Option.none : Option Jvm.ClassFile.FieldType), Jvm.Cond.code ({ cls := "java/util/Optional", name := "orElseThrow", desc := "(Ljava/util/function/Supplier;)Ljava/lang/Object;" } : Jvm.MethodName) jdk_32_method_18_code (2 : Nat) (Option.some (Jvm.ClassFile.FieldType.object "java/lang/Object")), Jvm.Cond.code ({ cls := "com/example/ply3/ply3/Navigator", name := "redirectTo", desc := "(Ljava/lang/String;)V" } : Jvm.MethodName) prog_14_method_2_code (2 : Nat) (Option.none : Option Jvm.ClassFile.FieldType), Jvm.Cond.code ({ cls := "java/util/Optional", name := "ofNullable", desc := "(Ljava/lang/Object;)Ljava/util/Optional;" } : Jvm.MethodName) jdk_32_method_4_code (1 : Nat) (Option.some (Jvm.ClassFile.FieldType.object "java/util/Optional")), Jvm.Cond.code ({ cls := "com/example/ply3/ply3/Target", name := "name", desc := "()Ljava/lang/String;" } : Jvm.MethodName) prog_31_method_8_code (1 : Nat) (Option.some (Jvm.ClassFile.FieldType.object "java/lang/String"))]
set_option maxRecDepth 65536 in
theorem codes_eq : words1.filter isCode = codes1 := rfl
theorem w_codes : ∀ c ∈ words1.filter isCode, c.before args0 about1 = true := by
  rw [codes_eq]
  intro c hc
  simp only [codes1, List.mem_cons, List.not_mem_nil, or_false] at hc
  rcases hc with rfl | rfl | rfl | rfl | rfl | rfl | rfl | rfl | rfl | rfl | rfl | rfl | rfl | rfl | rfl | rfl | rfl | rfl | rfl | rfl | rfl | rfl | rfl | rfl | rfl | rfl | rfl | rfl | rfl | rfl | rfl | rfl | rfl | rfl | rfl | rfl | rfl | rfl | rfl | rfl | rfl | rfl | rfl | rfl | rfl | rfl | rfl | rfl | rfl | rfl | rfl | rfl | rfl | rfl | rfl | rfl | rfl | rfl | rfl | rfl | rfl | rfl | rfl
  · exact w_c0
  · exact w_c1
  · exact w_c2
  · exact w_c3
  · exact w_c4
  · exact w_c5
  · exact w_c6
  · exact w_c7
  · exact w_c8
  · exact w_c9
  · exact w_c10
  · exact w_c11
  · exact w_c12
  · exact w_c13
  · exact w_c14
  · exact w_c15
  · exact w_c16
  · exact w_c17
  · exact w_c18
  · exact w_c19
  · exact w_c20
  · exact w_c21
  · exact w_c22
  · exact w_c23
  · exact w_c24
  · exact w_c25
  · exact w_c26
  · exact w_c27
  · exact w_c28
  · exact w_c29
  · exact w_c30
  · exact w_c31
  · exact w_c32
  · exact w_c33
  · exact w_c34
  · exact w_c35
  · exact w_c36
  · exact w_c37
  · exact w_c38
  · exact w_c39
  · exact w_c40
  · exact w_c41
  · exact w_c42
  · exact w_c43
  · exact w_c44
  · exact w_c45
  · exact w_c46
  · exact w_c47
  · exact w_c48
  · exact w_c49
  · exact w_c50
  · exact w_c51
  · exact w_c52
  · exact w_c53
  · exact w_c54
  · exact w_c55
  · exact w_c56
  · exact w_c57
  · exact w_c58
  · exact w_c59
  · exact w_c60
  · exact w_c61
  · exact w_c62
set_option maxRecDepth 65536 in
theorem w_t1 : (words1.take 24).all (fun c => isCode c || c.before args0 about1) = true := by decide +kernel
set_option maxRecDepth 65536 in
theorem w_t2 : ((words1.drop 24).take 24).all (fun c => isCode c || c.before args0 about1) = true := by decide +kernel
set_option maxRecDepth 65536 in
theorem w_t3 : (((words1.drop 24).drop 24).take 24).all (fun c => isCode c || c.before args0 about1) = true := by decide +kernel
set_option maxRecDepth 65536 in
theorem w_t4 : ((((words1.drop 24).drop 24).drop 24).take 24).all (fun c => isCode c || c.before args0 about1) = true := by decide +kernel
set_option maxRecDepth 65536 in
theorem w_t5 : (((((words1.drop 24).drop 24).drop 24).drop 24).take 24).all (fun c => isCode c || c.before args0 about1) = true := by decide +kernel
set_option maxRecDepth 65536 in
theorem w_t6 : ((((((words1.drop 24).drop 24).drop 24).drop 24).drop 24).take 24).all (fun c => isCode c || c.before args0 about1) = true := by decide +kernel
set_option maxRecDepth 65536 in
theorem w_t7 : (((((((words1.drop 24).drop 24).drop 24).drop 24).drop 24).drop 24).take 24).all (fun c => isCode c || c.before args0 about1) = true := by decide +kernel
set_option maxRecDepth 65536 in
theorem w_t8 : ((((((((words1.drop 24).drop 24).drop 24).drop 24).drop 24).drop 24).drop 24).take 24).all (fun c => isCode c || c.before args0 about1) = true := by decide +kernel
set_option maxRecDepth 65536 in
theorem w_t9 : (((((((((words1.drop 24).drop 24).drop 24).drop 24).drop 24).drop 24).drop 24).drop 24).take 24).all (fun c => isCode c || c.before args0 about1) = true := by decide +kernel
set_option maxRecDepth 65536 in
theorem w_t10 : ((((((((((words1.drop 24).drop 24).drop 24).drop 24).drop 24).drop 24).drop 24).drop 24).drop 24).take 24).all (fun c => isCode c || c.before args0 about1) = true := by decide +kernel
set_option maxRecDepth 65536 in
theorem w_t11 : (((((((((((words1.drop 24).drop 24).drop 24).drop 24).drop 24).drop 24).drop 24).drop 24).drop 24).drop 24).take 24).all (fun c => isCode c || c.before args0 about1) = true := by decide +kernel
set_option maxRecDepth 65536 in
theorem w_t12 : ((((((((((((words1.drop 24).drop 24).drop 24).drop 24).drop 24).drop 24).drop 24).drop 24).drop 24).drop 24).drop 24).take 24).all (fun c => isCode c || c.before args0 about1) = true := by decide +kernel
set_option maxRecDepth 65536 in
theorem w_t13 : (((((((((((((words1.drop 24).drop 24).drop 24).drop 24).drop 24).drop 24).drop 24).drop 24).drop 24).drop 24).drop 24).drop 24).take 24).all (fun c => isCode c || c.before args0 about1) = true := by decide +kernel
set_option maxRecDepth 65536 in
theorem w_t14 : (((((((((((((words1.drop 24).drop 24).drop 24).drop 24).drop 24).drop 24).drop 24).drop 24).drop 24).drop 24).drop 24).drop 24).drop 24).all (fun c => isCode c || c.before args0 about1) = true := by decide +kernel
theorem w_tables : (allAtoms (Jvm.Cond.code x code maxLocals ret :: tables_1)).before args0 about1 = true := by
  rw [allAtoms_all]
  show words1.all (fun c => c.before args0 about1) = true
  refine all_split ?_ w_codes
  rw [← List.take_append_drop 24 words1, List.all_append, w_t1, ← List.take_append_drop 24 (words1.drop 24), List.all_append, w_t2, ← List.take_append_drop 24 ((words1.drop 24).drop 24), List.all_append, w_t3, ← List.take_append_drop 24 (((words1.drop 24).drop 24).drop 24), List.all_append, w_t4, ← List.take_append_drop 24 ((((words1.drop 24).drop 24).drop 24).drop 24), List.all_append, w_t5, ← List.take_append_drop 24 (((((words1.drop 24).drop 24).drop 24).drop 24).drop 24), List.all_append, w_t6, ← List.take_append_drop 24 ((((((words1.drop 24).drop 24).drop 24).drop 24).drop 24).drop 24), List.all_append, w_t7, ← List.take_append_drop 24 (((((((words1.drop 24).drop 24).drop 24).drop 24).drop 24).drop 24).drop 24), List.all_append, w_t8, ← List.take_append_drop 24 ((((((((words1.drop 24).drop 24).drop 24).drop 24).drop 24).drop 24).drop 24).drop 24), List.all_append, w_t9, ← List.take_append_drop 24 (((((((((words1.drop 24).drop 24).drop 24).drop 24).drop 24).drop 24).drop 24).drop 24).drop 24), List.all_append, w_t10, ← List.take_append_drop 24 ((((((((((words1.drop 24).drop 24).drop 24).drop 24).drop 24).drop 24).drop 24).drop 24).drop 24).drop 24), List.all_append, w_t11, ← List.take_append_drop 24 (((((((((((words1.drop 24).drop 24).drop 24).drop 24).drop 24).drop 24).drop 24).drop 24).drop 24).drop 24).drop 24), List.all_append, w_t12, ← List.take_append_drop 24 ((((((((((((words1.drop 24).drop 24).drop 24).drop 24).drop 24).drop 24).drop 24).drop 24).drop 24).drop 24).drop 24).drop 24), List.all_append, w_t13, w_t14]
  rfl
set_option maxRecDepth 65536 in
theorem w_rest : rest_1_c.before args0 about1 = true := by decide +kernel
set_option maxRecDepth 65536 in
theorem w_case : (Jvm.Cond.and given_1 narrow_1).before args0 about1 = true := by decide +kernel
set_option maxRecDepth 65536 in
theorem w_consts : constsHeld consts_1 about1 := Jvm.Lit.constsHeldB_iff.mp (by decide +kernel)
theorem w_applies : (headSpec (Jvm.Cond.code x code maxLocals ret :: tables_1) room_1).applies x e0.platform about1 = true :=
  (Spec.applies_iff w_frames).mpr ⟨w_running, w_runnable, w_alone, w_named, w_hears, w_ripe, w_room, w_tables⟩
theorem atStart : AtStart classFile x code maxLocals ret World_1 tables_1 room_1 Calls_1 rest_1 Pre_1 launch0 p0 e0 about1 theMethod args0 below0 :=
  ⟨lists_1, trivial, launch0.admits_env _ _ _, launch0.least_env, fairChoices_fair.cas, fairChoices_fair.clock, w_frames, w_args, w_heap, w_applies, ⟨w_consts, trivial⟩, w_rest, w_case⟩
end start1
theorem witness_1 : WitnessClaimed_1 := ⟨start1.p0, start1.e0, start1.about1, start1.theMethod, start1.args0, start1.below0, start1.atStart⟩
end Jvm.Pilot.@@N@@
