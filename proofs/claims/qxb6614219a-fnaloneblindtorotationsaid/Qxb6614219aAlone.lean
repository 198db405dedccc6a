/-
  'node.inRing', 'node.alone', 'ZZalone'.
-/
import Derived.Test.Qxb6614219aFrom
import Derived.Test.Qxb6614219aEq
namespace Go.Proofs.Qxb6614219a
open Go.RowKit
set_option linter.unusedVariables false
set_option linter.unusedSimpArgs false

/-- The state is 'joined' or 'linking'. -/
def inR (s : ByteArray) : Bool := s.toList == [106, 111, 105, 110, 101, 100] || s.toList == [108, 105, 110, 107, 105, 110, 103]

set_option maxHeartbeats 1000000 in
set_option maxRecDepth 100000 in
theorem inring_any (g : Nat) (s : ByteArray) (w : World) (h : w.cell? ⟨g, 197, none⟩ = some (.string s)) :
    Calls Try.prog 39 #[.pointer (some ⟨g, 0, none⟩)] w fun e w' => e = .returned (.bool (inR s)) ∧ w' = w := by
  unfold inR
  go_enter Try.func39, Try.ntmps39
  go_wp2
  all_goals
    go_ret
    exact ⟨by simp [*], rfl⟩

theorem inring_b (b : Bool) (g : Nat) (s : ByteArray) (w : World) (hb : inR s = b) (h : w.cell? ⟨g, 197, none⟩ = some (.string s)) :
    Calls Try.prog 39 #[.pointer (some ⟨g, 0, none⟩)] w fun e w' => e = .returned (.bool b) ∧ w' = w := by
  rw [← hb]; exact inring_any g s w h

set_option maxHeartbeats 1000000 in
set_option maxRecDepth 100000 in
theorem alone_no (g : Nat) (s : ByteArray) (w : World) (hb : inR s = false) (h : w.cell? ⟨g, 197, none⟩ = some (.string s)) :
    Calls Try.prog 29 #[.pointer (some ⟨g, 0, none⟩)] w fun e w' => e = .returned (.bool false) ∧ ∃ n, w' = w.drewN n := by
  have hc : Hid (∀ n, Calls Try.prog 39 #[.pointer (some ⟨g, 0, none⟩)] (w.drewN n) fun e w' => e = .returned (.bool false) ∧ w' = w.drewN n) := fun n => inring_b false g s (w.drewN n) hb h
  clear hb h
  go_enter Try.func29, Try.ntmps29
  go_wp2
  go_quiet ((go_at_call 39; exact Calls.quiet_of_same (hc.out _)))
  go_wp2
  go_ret
  exact ⟨rfl, _, rfl⟩

/-- A long array loaded in a quiet region. -/
theorem quiet_load_mid {P : Program} {o : Oper} {a : Act} {w : World} {K : Act → Prop} (ty : TypeId) (x : Operand) (ho : o.op = .load ty x)
    (b off : Nat) (hx : a.eval x = .pointer (some ⟨b, off, none⟩)) (cs : List Value) (d : TypeDesc) (hc : w.rangeAt b off cs)
    (hu : P.underlying ty = some d) (hd : d.isRow = true) (hi : (P.info? ty).map (·.size) = some cs.length)
    (h : K (a.put o.dst (.agg cs.toArray))) : o.quiet P a (fun w' => ∃ n, w' = w.drewN n) K :=
  ⟨.agg cs.toArray, fun w' ⟨n, hw⟩ => by
    subst hw
    unfold Oper.quietAt execOp
    simp only [ho, hx, Instr.loadAt, Instr.sureAddr, Sem.run_bind, Sem.run_pure, Result.andThen_ok, run_loadVar_mid (w.drewN n) b off ty cs d hc hu hd hi]
    exact ⟨rfl, rfl⟩, h⟩

set_option maxHeartbeats 1000000 in
set_option maxRecDepth 100000 in
theorem alone_yes (g A B : Nat) (s : ByteArray) (w : World) (hA : A < 1461501637330902918203684832716283019655932542976) (hB : B < 1461501637330902918203684832716283019655932542976) (hb : inR s = true) (h : w.cell? ⟨g, 197, none⟩ = some (.string s))
    (rA : w.rangeAt g 0 (idC A)) (rB : w.rangeAt g 42 (idC B)) :
    Calls Try.prog 29 #[.pointer (some ⟨g, 0, none⟩)] w fun e w' => e = .returned (.bool (decide (B = A))) ∧ ∃ n, w' = w.drewN n := by
  have hc : Hid (∀ n, Calls Try.prog 39 #[.pointer (some ⟨g, 0, none⟩)] (w.drewN n) fun e w' => e = .returned (.bool true) ∧ w' = w.drewN n) := fun n => inring_b true g s (w.drewN n) hb h
  clear hb h
  go_enter Try.func29, Try.ntmps29
  go_wp2
  refine wp_region_quiet_lit (by kernel_rfl) (by kernel_rfl) ?_
  iterate 8 quiet_step ((go_at_call 39; exact Calls.quiet_of_same (hc.out _)))
  refine wpQuiet_step (fun K hK => ?_)
  rw [if_pos (by rfl)]
  refine quiet_load_mid 25 _ rfl g 42 rfl (idC B) _ rB Try.underlying25 rfl (info25 B) (hK _ ?_)
  clear hK K
  iterate 4 quiet_step (fail)
  refine wpQuiet_step (fun K hK => ?_)
  rw [if_pos (by rfl)]
  refine quiet_load_mid 25 _ rfl g 0 rfl (idC A) _ rA Try.underlying25 rfl (info25 A) (hK _ ?_)
  clear hK K
  have eC : ∀ wx, (Op.equalIn 10000 25 (.agg (idC B).toArray) (.agg (idC A).toArray)).run Try.prog wx = .ok (decide (B = A)) wx := fun wx => equal_num B A hB hA wx
  iterate 3 quiet_step (fail)
  refine wpQuiet_nil ?_
  intro _ hw'
  obtain ⟨nq, hw''⟩ := hw'
  subst hw''
  go_wp2
  go_ret
  exact ⟨rfl, _, rfl⟩

/-- The zero node's cells. -/
theorem node_some : (Try.prog.built 99 []).isSome = true := by kernel_rfl
theorem node_size : 200 ≤ ((Try.prog.built 99 []).getD #[]).size := of_decide_eq_true (by kernel_rfl)

set_option maxRecDepth 100000 in
theorem wp_build99 {o : Oper} {a : Act} {w : World} {K : Act → World → Prop} {Q : Exit → Act → World → Prop} (N : Array Value) (hN : N = (Try.prog.built 99 []).getD #[]) (ho : o.op = .build 99 #[])
    (h : K (a.put o.dst (.agg N)) w) : o.wp Try.prog a w K Q := by
  have e : ((#[] : Array (Nat × Operand)).map fun (i, x) => (i, a.eval x)).toList = [] := by simp
  exact wp_build 99 #[] ho (by rw [e]; exact node_some) (by rw [e, ← hN]; exact h)

theorem three_blocks (w : World) (CA CB M : Array Value) : (((w.alloc (Obj.cells CA 25)).alloc (Obj.cells CB 25)).alloc (Obj.cells M 99)).heap[w.heap.size]? = some (.cells CA 25 (0, 0)) ∧
    (((w.alloc (Obj.cells CA 25)).alloc (Obj.cells CB 25)).alloc (Obj.cells M 99)).heap[w.heap.size + 1]? = some (.cells CB 25 (0, 0)) ∧
    (((w.alloc (Obj.cells CA 25)).alloc (Obj.cells CB 25)).alloc (Obj.cells M 99)).heap[w.heap.size + 1 + 1]? = some (.cells M 99 (0, 0)) ∧
    Below w.heap.size w (((w.alloc (Obj.cells CA 25)).alloc (Obj.cells CB 25)).alloc (Obj.cells M 99)) := by
  refine ⟨?_, ?_, ?_, (((Below.refl _ _).alloc (Nat.le_refl _) _).alloc (by simp) _).alloc (by simp; omega) _⟩
  · rw [Below.heap_alloc _ _ _ (by simp; omega), Below.heap_alloc _ _ _ (by simp)]; exact heap_alloc_new w _
  · rw [Below.heap_alloc _ _ _ (by simp)]
    have := heap_alloc_new (w.alloc (Obj.cells CA 25)) (Obj.cells CB 25)
    simpa using this
  · have := heap_alloc_new ((w.alloc (Obj.cells CA 25)).alloc (Obj.cells CB 25)) (Obj.cells M 99)
    simpa using this

theorem there_at {w : World} {g : Nat} {C : Array Value} {T : TypeId} (h : w.heap[g]? = some (.cells C T (0, 0))) (o n : Nat) (hn : o + n ≤ C.size) : w.there g o n := fun j hj => by
  have : o + j < C.size := by omega
  simp [World.cell?, World.frozen?, h, this]

/-- The node behind the three stores, as 'alone' reads it. -/
theorem node_ready (LA LB : List Value) (hLA : LA.length = 20) (hLB : LB.length = 20) (s : ByteArray) (N : Array Value) (zN : 200 ≤ N.size) (E : World) (g : Nat) (hE : E.heap[g]? = some (.cells (N.setIfInBounds 197 (Value.string s)) 99 (0, 0))) :
    E.there g 0 20 ∧ (E.setCells g 0 LA).there g 42 20 ∧
    ((E.setCells g 0 LA).setCells g 42 LB).cell? ⟨g, 197, none⟩ = some (.string s) ∧
    ((E.setCells g 0 LA).setCells g 42 LB).rangeAt g 0 LA ∧ ((E.setCells g 0 LA).setCells g 42 LB).rangeAt g 42 LB := by
  have sz : (N.setIfInBounds 197 (Value.string s)).size = N.size := by simp
  have t0 : E.there g 0 20 := there_at hE 0 20 (by rw [sz]; omega)
  have t1 : E.there g 42 20 := there_at hE 42 20 (by rw [sz]; omega)
  have t2 : (E.setCells g 0 LA).there g 42 20 := World.there_setCells t1 _ _ _
  have c : E.cell? ⟨g, 197, none⟩ = some (.string s) := by
    have : 197 < N.size := by omega
    simp [World.cell?, hE, this]
  refine ⟨t0, t2, ?_, ?_, ?_⟩
  · rw [World.cell?_setCells_out _ _ _ _ _ (fun _ _ => .inr (by rw [hLB]; show 42 + 20 ≤ 197; omega)), World.cell?_setCells_out _ _ _ _ _ (fun _ _ => .inr (by rw [hLA]; show 0 + 20 ≤ 197; omega))]
    exact c
  · exact World.rangeAt_setCells_apart (World.rangeAt_setCells_same _ _ _ _ (by rw [hLA]; exact t0)) _ _ _ (.inr (.inl (by rw [hLA]; omega)))
  · exact World.rangeAt_setCells_same _ _ _ _ (by rw [hLB]; exact t2)

set_option maxHeartbeats 1000000 in
set_option maxRecDepth 100000 in
theorem zzalone_any (A B : Nat) (s : ByteArray) (w : World) (hA : A < 1461501637330902918203684832716283019655932542976) (hB : B < 1461501637330902918203684832716283019655932542976) :
    Calls Try.prog 14 #[.string s, .agg (idC A).toArray, .agg (idC B).toArray] w fun e w' => e = .returned (.bool (inR s && decide (B = A))) ∧ Below w.heap.size w w' := by
  have oA := all_oneCell_toArray (idC_one A)
  have oB := all_oneCell_toArray (idC_one B)
  have iA := infoC A
  have iB := infoC B
  have sA := sizeC A
  have sB := sizeC B
  obtain ⟨CA, hCA⟩ : ∃ CA, CA = (idC A).toArray := ⟨_, rfl⟩
  obtain ⟨CB, hCB⟩ : ∃ CB, CB = (idC B).toArray := ⟨_, rfl⟩
  have HA : Hid (CA = (idC A).toArray) := hCA
  have HB : Hid (CB = (idC B).toArray) := hCB
  rw [← hCA] at oA iA sA
  rw [← hCB] at oB iB sB
  rw [← hCA, ← hCB]
  have lA : CA.toList = idC A := by rw [hCA]
  have lB : CB.toList = idC B := by rw [hCB]
  clear hCA hCB
  obtain ⟨N, hN⟩ : ∃ N, N = (Try.prog.built 99 []).getD #[] := ⟨_, rfl⟩
  have zN : 200 ≤ N.size := by rw [hN]; exact node_size
  have HN : Hid (N = (Try.prog.built 99 []).getD #[]) := hN
  clear hN
  obtain ⟨e0, e1, e2, be⟩ := three_blocks w CA CB (N.setIfInBounds 197 (Value.string s))
  obtain ⟨n0, n1, n2, n3, n4⟩ := node_ready CA.toList CB.toList (by rw [lA, idC_length]) (by rw [lB, idC_length]) s N zN _ _ e2
  have e1' : ((((w.alloc (Obj.cells CA 25)).alloc (Obj.cells CB 25)).alloc (Obj.cells (N.setIfInBounds 197 (Value.string s)) 99)).setCells (w.heap.size + 1 + 1) 0 CA.toList).heap[w.heap.size + 1]? = some (.cells CB 25 (0, 0)) := by
    rw [World.heap_setCells_other _ _ _ _ (lt_of_some e1) (by omega)]; exact e1
  have bb : Below w.heap.size w (((((w.alloc (Obj.cells CA 25)).alloc (Obj.cells CB 25)).alloc (Obj.cells (N.setIfInBounds 197 (Value.string s)) 99)).setCells (w.heap.size + 1 + 1) 0 CA.toList).setCells (w.heap.size + 1 + 1) 42 CB.toList) :=
    (be.trans (Lib.below_setCells_w (by omega) _ _ _)).trans (Lib.below_setCells_w (by omega) _ _ _)
  rw [← sA] at n0
  rw [← sB] at n1
  have E0 : Hid _ := e0
  have E1 : Hid _ := e1'
  have N0 : Hid (World.there _ _ _ _) := n0
  have N1 : Hid (World.there _ _ _ _) := n1
  have N2 : Hid _ := n2
  have N3 : Hid (World.rangeAt _ _ _ _) := n3
  have N4 : Hid (World.rangeAt _ _ _ _) := n4
  have IA : Hid _ := iA
  have IB : Hid _ := iB
  have LA : Hid _ := lA
  have LB : Hid _ := lB
  have c197 : ∃ u, N[197]? = some u := ⟨N[197]'(by omega), by simp⟩
  clear e0 e1 e2 e1' n0 n1 n2 n3 n4 iA iB sA sB lA lB zN
  obtain ⟨u, hu⟩ := c197
  go_enter Try.func14, Try.ntmps14
  go_wp2_with fail
  refine wp_build99 N HN.out rfl ?_
  go_wp2_with (first
    | (refine wpList_load_row rfl 25 (.tmp 4) rfl w.heap.size rfl 25 CA (0, 0) _ E0.out Try.underlying25 rfl IA.out ?_)
    | (refine wpList_store_mid rfl 25 (.tmp 18) (.tmp 15) rfl (w.heap.size + 1 + 1) 0 CA rfl rfl N0.out IA.out oA ?_)
    | (refine wpList_load_row rfl 25 (.tmp 5) rfl (w.heap.size + 1) rfl 25 CB (0, 0) _ E1.out Try.underlying25 rfl IB.out ?_)
    | (refine wpList_store_mid rfl 25 (.tmp 24) (.tmp 20) rfl (w.heap.size + 1 + 1) 42 CB rfl rfl N1.out IB.out oB ?_))
  by_cases hs : inR s = true
  · refine (alone_yes _ A B s _ hA hB hs N2.out (by rw [← LA.out]; exact N3.out) (by rw [← LB.out]; exact N4.out)).mono ?_
    rintro e w1 ⟨rfl, n, hw⟩
    subst w1
    go_wp2
    go_ret
    exact ⟨by rw [hs]; rfl, bb.trans ⟨rfl, rfl, rfl, Nat.le_refl _, fun _ _ => rfl⟩⟩
  · have hs' : inR s = false := by simpa using hs
    refine (alone_no _ s _ hs' N2.out).mono ?_
    rintro e w1 ⟨rfl, n, hw⟩
    subst w1
    go_wp2
    go_ret
    exact ⟨by rw [hs']; rfl, bb.trans ⟨rfl, rfl, rfl, Nat.le_refl _, fun _ _ => rfl⟩⟩
end Go.Proofs.Qxb6614219a
