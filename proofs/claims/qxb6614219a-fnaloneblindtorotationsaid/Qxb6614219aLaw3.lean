/-
  THE WALK of 'FnAloneBlindToRotation'.
-/
import Derived.Test.Qxb6614219aAlone
import Derived.Deep.DeepCutAuto
namespace Go.Proofs.Qxb6614219a
open Go.RowKit
set_option linter.unusedVariables false
set_option linter.unusedSimpArgs false

/-! ### The plain law -/
/-- The successor k ids clockwise. -/
def succN (S k : Nat) : Nat := subN S (subN 0 k)
theorem succ_eq (S k : Nat) (hS : S < 1461501637330902918203684832716283019655932542976) (hk : k < 18446744073709551616) : decide (succN S k = S) = decide (k = 0) := by
  rw [Bool.eq_iff_iff]; simp only [decide_eq_true_eq]; unfold succN subN; omega
theorem turn_eq (S k X : Nat) (hS : S < 1461501637330902918203684832716283019655932542976) (hk : k < 18446744073709551616) (hX : X < 1461501637330902918203684832716283019655932542976) : decide (subN (succN S k) X = subN S X) = decide (k = 0) := by
  rw [Bool.eq_iff_iff]; simp only [decide_eq_true_eq]; unfold succN subN; omega

set_option maxHeartbeats 1000000 in
set_option maxRecDepth 100000 in
theorem bytes3_any (s : ByteArray) (C D : Array Value) (k : Int) (w : World) :
    Calls Try.prog 9 #[.string s, .agg C, .int .u64 k, .agg D] w fun e w' => e = .returned (.bool (decide (s.size ≤ 1048576))) ∧ Below w.heap.size w w' := by
  by_cases h : s.size ≤ 1048576
  · have e : decide (s.size ≤ 1048576) = true := by simpa using h
    go_enter Try.func9, Try.ntmps9
    go_wp2
    go_ret
    exact ⟨by rw [e]; rfl, ((Below.refl _ _).alloc (Nat.le_refl _) _).alloc (by simp) _⟩
  · have e : decide (s.size ≤ 1048576) = false := by simpa using h
    go_enter Try.func9, Try.ntmps9
    go_wp2
    go_ret
    exact ⟨by rw [e]; rfl, ((Below.refl _ _).alloc (Nat.le_refl _) _).alloc (by simp) _⟩

theorem info22 (N : Nat) : (Try.prog.info? 22).map (·.size) = some (idC N).length := by rw [idC_length]; kernel_rfl
theorem info22C (N : Nat) : (Try.prog.info? 22).map (·.size) = some (idC N).toArray.size := by rw [sizeC]; kernel_rfl
theorem zero_cells : #[Value.int IntKind.u8 0, Value.int IntKind.u8 0, Value.int IntKind.u8 0, Value.int IntKind.u8 0, Value.int IntKind.u8 0, Value.int IntKind.u8 0, Value.int IntKind.u8 0, Value.int IntKind.u8 0, Value.int IntKind.u8 0, Value.int IntKind.u8 0, Value.int IntKind.u8 0, Value.int IntKind.u8 0, Value.int IntKind.u8 0, Value.int IntKind.u8 0, Value.int IntKind.u8 0, Value.int IntKind.u8 0, Value.int IntKind.u8 0, Value.int IntKind.u8 0, Value.int IntKind.u8 0, Value.int IntKind.u8 0] = (idC 0).toArray := by kernel_rfl
theorem k0_eq (k : Nat) : ((k : Int) == 0) = decide (k = 0) := by rw [Bool.eq_iff_iff, beq_iff_eq, decide_eq_true_eq]; omega
theorem store_whole {w : World} {g : Nat} {D : Array Value} {C : List Value} {T : TypeId} (h : w.heap[g]? = some (.cells D T (0, 0))) (hl : D.size = C.length) : (w.setCells g 0 C).heap[g]? = some (.cells C.toArray T (0, 0)) := by
  have := heap_setCells_same g T C [] D.toList [] w (by simpa using h) (by simpa using hl)
  rwa [List.nil_append, List.append_nil, List.length_nil] at this
theorem two_blocks (w : World) (CA CB : Array Value) : ((w.alloc (Obj.cells CA 22)).alloc (Obj.cells CB 22)).heap[w.heap.size]? = some (.cells CA 22 (0, 0)) ∧
    ((w.alloc (Obj.cells CA 22)).alloc (Obj.cells CB 22)).heap[w.heap.size + 1]? = some (.cells CB 22 (0, 0)) ∧
    Below w.heap.size w ((w.alloc (Obj.cells CA 22)).alloc (Obj.cells CB 22)) := by
  refine ⟨?_, ?_, ((Below.refl _ _).alloc (Nat.le_refl _) _).alloc (by simp) _⟩
  · rw [Below.heap_alloc _ _ _ (by simp)]; exact heap_alloc_new w _
  · have := heap_alloc_new (w.alloc (Obj.cells CA 22)) (Obj.cells CB 22)
    simpa using this

set_option maxHeartbeats 4000000 in
set_option maxRecDepth 100000 in
theorem law3 (s : ByteArray) (S k X : Nat) (hS : S < 1461501637330902918203684832716283019655932542976) (hk : k < 18446744073709551616) (hX : X < 1461501637330902918203684832716283019655932542976) (hs : s.size ≤ 65536) (w : World) :
    Calls Try.prog 3 #[.string s, .agg (idC S).toArray, .int .u64 k, .agg (idC X).toArray] w fun e w' => e = .returned (.bool true) ∧ Below w.heap.size w w' := by
  obtain ⟨e0, e1, be⟩ := two_blocks w (idC S).toArray (idC X).toArray
  have iS := info22C S
  have iX := info22C X
  obtain ⟨CS, hCS⟩ : ∃ CS, CS = idC S := ⟨_, rfl⟩
  obtain ⟨CX, hCX⟩ : ∃ CX, CX = idC X := ⟨_, rfl⟩
  rw [← hCS] at e0 e1 be iS
  rw [← hCX] at e0 e1 be iX
  rw [← hCS, ← hCX]
  have HS : Hid (CS = idC S) := hCS
  have HX : Hid (CX = idC X) := hCX
  have E0 : Hid _ := e0
  have E1 : Hid _ := e1
  have IS : Hid _ := iS
  have IX : Hid _ := iX
  have BE : Hid _ := be
  clear hCS hCX e0 e1 iS iX be
  have hb1 : decide (s.size ≤ 1048576) = true := by simp; omega
  go_enter Try.func3, Try.ntmps3
  go_wp2_with (first
    | (refine wpList_load_row rfl 22 (.tmp 5) rfl w.heap.size rfl 22 CS.toArray (0, 0) _ E0.out Try.underlying22 rfl IS.out ?_)
    | (refine wpList_load_row rfl 22 (.tmp 7) rfl (w.heap.size + 1) rfl 22 CX.toArray (0, 0) _ E1.out Try.underlying22 rfl IX.out ?_))
  refine (bytes3_any _ _ _ _ _).mono ?_
  rintro e w1 ⟨rfl, b1⟩
  have e0 := (b1.block _ (lt_of_some E0.out)).trans E0.out
  have e1 := (b1.block _ (lt_of_some E1.out)).trans E1.out
  have bw : Below w.heap.size w w1 := BE.out.trans (b1.mono BE.out.size)
  have F0 : Hid _ := e0
  have F1 : Hid _ := e1
  have l1 : w.heap.size + 2 ≤ w1.heap.size := by have := lt_of_some e1; omega
  clear e0 e1 b1 E0 E1 BE
  go_wp2
  obtain ⟨W5, hW5⟩ : ∃ W5, W5 = w1.alloc (Obj.cells #[Value.int IntKind.u8 0, Value.int IntKind.u8 0, Value.int IntKind.u8 0, Value.int IntKind.u8 0, Value.int IntKind.u8 0, Value.int IntKind.u8 0, Value.int IntKind.u8 0, Value.int IntKind.u8 0, Value.int IntKind.u8 0, Value.int IntKind.u8 0, Value.int IntKind.u8 0, Value.int IntKind.u8 0, Value.int IntKind.u8 0, Value.int IntKind.u8 0, Value.int IntKind.u8 0, Value.int IntKind.u8 0, Value.int IntKind.u8 0, Value.int IntKind.u8 0, Value.int IntKind.u8 0, Value.int IntKind.u8 0] 25) := ⟨_, rfl⟩
  have b5 : Below w1.heap.size w1 W5 := by rw [hW5]; exact (Below.refl _ _).alloc (Nat.le_refl _) _
  have z5 : W5.heap[w1.heap.size]? = some (.cells (idC 0).toArray 25 (0, 0)) := by rw [hW5, ← zero_cells]; exact heap_alloc_new w1 _
  rw [← hW5]
  clear hW5
  have f0 := (b5.block _ (lt_of_some F0.out)).trans F0.out
  have f1 := (b5.block _ (lt_of_some F1.out)).trans F1.out
  have bw5 : Below w.heap.size w W5 := bw.trans (b5.mono bw.size)
  have G0 : Hid _ := f0
  have G1 : Hid _ := f1
  have Z5 : Hid _ := z5
  clear f0 f1 z5 F0 F1 b5 bw
  have ZS : Hid (∀ wx, Calls Try.prog 10 #[.agg CS.toArray, .agg (idC (subN 0 k)).toArray] wx fun e w' => e = .returned (.agg (idC (succN S k)).toArray) ∧ Below wx.heap.size wx w') := fun wx => by
    rw [HS.out]; exact zzsub_any S (subN 0 k) hS (subN_lt _ _) wx
  go_cut [10] (fun v wc => ∃ g, v = .pointer (some ⟨g, 0, none⟩) ∧ Below W5.heap.size W5 wc ∧ Hid (W5.heap.size ≤ g) ∧ Hid (wc.heap[g]? = some (.cells (idC (succN S k)).toArray 25 (0, 0))))
  case first =>
    refine wp_region_noPanic ?_
    refine wp_region_held_drew (S := Below W5.heap.size W5) (by kernel_rfl) (Below.refl _ _).drew (fun hHeld => ?_)
    refine wpAnyH_take (i := 0) (v := .agg CS.toArray) rfl (by kernel_rfl) (by kernel_rfl) (by kernel_rfl) (fun _ _ _ h => h) (yieldsIf_load_mid (by rfl) _ _ rfl w.heap.size 0 rfl CS _ (fun _ h => range_of (T := 22) ((h.block _ (lt_of_some G0.out)).trans G0.out)) Try.underlying22 rfl (by rw [HS.out]; exact info22 S)) hHeld ?_
    refine wpAnyH_take (i := 1) (v := .agg (idC 0).toArray) rfl (by kernel_rfl) (by kernel_rfl) (by kernel_rfl) (fun _ _ _ h => h) (yieldsIf_load_mid (by rfl) _ _ rfl w1.heap.size 0 rfl (idC 0) _ (fun _ h => range_of (T := 25) ((h.block _ (lt_of_some Z5.out)).trans Z5.out)) Try.underlying25 rfl (info25 0)) hHeld ?_
    refine wpAnyH_take (i := 2) (v := .int .u64 k) rfl (by kernel_rfl) (by kernel_rfl) (by kernel_rfl) (fun _ _ _ h => h) (Or.inl ⟨by rfl, fun wx _ => by go_simp⟩) hHeld ?_
    try simp only [Act.put, List.setIfInBounds_toArray, List.set_cons_zero, List.set_cons_succ]
    refine wpAnyH_ready (rs := [3, 6]) (by kernel_rfl) (by simp) ?_
    refine AllReadyH.cons rfl (fun K hK => ?_) ?_
    · skip
      go_simp
      refine (from_any k hk _).mono ?_
      rintro e v1 ⟨rfl, hb⟩
      have d1 : Below W5.heap.size W5 v1 := hHeld.trans (hb.mono hHeld.size)
      clear hb
      refine hK.out _ _ d1 (fun hHeld => ?_)
      clear hK K
      try simp only [Act.put, List.setIfInBounds_toArray, List.set_cons_zero, List.set_cons_succ]
      refine wpAnyH_ready (rs := [4, 6]) (by kernel_rfl) (by simp) ?_
      refine AllReadyH.cons rfl (fun K hK => ?_) ?_
      · skip
        go_simp
        refine (zzsub_any 0 k (by omega) (by omega) _).mono ?_
        rintro e v2 ⟨rfl, hb⟩
        have d2 : Below W5.heap.size W5 v2 := d1.trans (hb.mono d1.size)
        clear hb
        refine hK.out _ _ d2 (fun hHeld => ?_)
        clear hK K
        try simp only [Act.put, List.setIfInBounds_toArray, List.set_cons_zero, List.set_cons_succ]
        refine wpAnyH_ready (rs := [5, 6]) (by kernel_rfl) (by simp) ?_
        refine AllReadyH.cons rfl (fun K hK => ?_) ?_
        · skip
          go_simp
          refine (ZS.out _).mono ?_
          rintro e v3 ⟨rfl, hb⟩
          have d3 : Below W5.heap.size W5 v3 := d2.trans (hb.mono d2.size)
          clear hb
          refine hK.out _ _ d3 (fun hHeld => ?_)
          clear hK K
          try simp only [Act.put, List.setIfInBounds_toArray, List.set_cons_zero, List.set_cons_succ]
          refine wpAnyH_ready (rs := [6]) (by kernel_rfl) (by simp) ?_
          refine AllReadyH.cons rfl (fun K hK => ?_) AllReadyH.nil
          go_simp
          have d4 : Below W5.heap.size W5 (v3.alloc (Obj.cells #[Value.int IntKind.u8 0, Value.int IntKind.u8 0, Value.int IntKind.u8 0, Value.int IntKind.u8 0, Value.int IntKind.u8 0, Value.int IntKind.u8 0, Value.int IntKind.u8 0, Value.int IntKind.u8 0, Value.int IntKind.u8 0, Value.int IntKind.u8 0, Value.int IntKind.u8 0, Value.int IntKind.u8 0, Value.int IntKind.u8 0, Value.int IntKind.u8 0, Value.int IntKind.u8 0, Value.int IntKind.u8 0, Value.int IntKind.u8 0, Value.int IntKind.u8 0, Value.int IntKind.u8 0, Value.int IntKind.u8 0] 25)) := d3.alloc d3.size _
          have y4 : Hid ((v3.alloc (Obj.cells #[Value.int IntKind.u8 0, Value.int IntKind.u8 0, Value.int IntKind.u8 0, Value.int IntKind.u8 0, Value.int IntKind.u8 0, Value.int IntKind.u8 0, Value.int IntKind.u8 0, Value.int IntKind.u8 0, Value.int IntKind.u8 0, Value.int IntKind.u8 0, Value.int IntKind.u8 0, Value.int IntKind.u8 0, Value.int IntKind.u8 0, Value.int IntKind.u8 0, Value.int IntKind.u8 0, Value.int IntKind.u8 0, Value.int IntKind.u8 0, Value.int IntKind.u8 0, Value.int IntKind.u8 0, Value.int IntKind.u8 0] 25)).heap[v3.heap.size]? = some (.cells #[Value.int IntKind.u8 0, Value.int IntKind.u8 0, Value.int IntKind.u8 0, Value.int IntKind.u8 0, Value.int IntKind.u8 0, Value.int IntKind.u8 0, Value.int IntKind.u8 0, Value.int IntKind.u8 0, Value.int IntKind.u8 0, Value.int IntKind.u8 0, Value.int IntKind.u8 0, Value.int IntKind.u8 0, Value.int IntKind.u8 0, Value.int IntKind.u8 0, Value.int IntKind.u8 0, Value.int IntKind.u8 0, Value.int IntKind.u8 0, Value.int IntKind.u8 0, Value.int IntKind.u8 0, Value.int IntKind.u8 0] 25 (0, 0))) := heap_alloc_new v3 _
          have q4 : Hid (W5.heap.size ≤ v3.heap.size) := d3.size
          refine hK.out _ _ d4 (fun hHeld => ?_)
          clear hK K
          try simp only [Act.put, List.setIfInBounds_toArray, List.set_cons_zero, List.set_cons_succ]
          refine wpAnyH_ready (rs := [7]) (by kernel_rfl) (by simp) ?_
          refine AllReadyH.cons rfl (fun K hK => ?_) AllReadyH.nil
          rw [if_pos (by rfl)]
          refine wp_store_mid _ _ _ rfl (v3.heap.size) 0 (idC (succN S k)).toArray rfl rfl (by rw [sizeC]; exact there_of y4.out 20 (Nat.le_refl _)) (infoC _) (all_oneCell_toArray (idC_one _)) ?_
          rw [List.toList_toArray]
          have d5 := d4.trans (Lib.below_setCells_w q4.out (idC (succN S k)) 0 _)
          refine hK.out _ _ d5 (fun hHeld => ?_)
          clear hK K
          refine wpAnyH_done (by kernel_rfl) (NoPanic.normal ?_) _
          have z5 := store_whole y4.out (show 20 = (idC (succN S k)).length by rw [idC_length])
          go_wp2
          go_meet
          case rel => exact ⟨_, rfl, d5, q4, z5⟩
        refine AllReadyH.cons rfl (fun K hK => ?_) AllReadyH.nil
        go_simp
        have d6 : Below W5.heap.size W5 (v2.alloc (Obj.cells #[Value.int IntKind.u8 0, Value.int IntKind.u8 0, Value.int IntKind.u8 0, Value.int IntKind.u8 0, Value.int IntKind.u8 0, Value.int IntKind.u8 0, Value.int IntKind.u8 0, Value.int IntKind.u8 0, Value.int IntKind.u8 0, Value.int IntKind.u8 0, Value.int IntKind.u8 0, Value.int IntKind.u8 0, Value.int IntKind.u8 0, Value.int IntKind.u8 0, Value.int IntKind.u8 0, Value.int IntKind.u8 0, Value.int IntKind.u8 0, Value.int IntKind.u8 0, Value.int IntKind.u8 0, Value.int IntKind.u8 0] 25)) := d2.alloc d2.size _
        have y6 : Hid ((v2.alloc (Obj.cells #[Value.int IntKind.u8 0, Value.int IntKind.u8 0, Value.int IntKind.u8 0, Value.int IntKind.u8 0, Value.int IntKind.u8 0, Value.int IntKind.u8 0, Value.int IntKind.u8 0, Value.int IntKind.u8 0, Value.int IntKind.u8 0, Value.int IntKind.u8 0, Value.int IntKind.u8 0, Value.int IntKind.u8 0, Value.int IntKind.u8 0, Value.int IntKind.u8 0, Value.int IntKind.u8 0, Value.int IntKind.u8 0, Value.int IntKind.u8 0, Value.int IntKind.u8 0, Value.int IntKind.u8 0, Value.int IntKind.u8 0] 25)).heap[v2.heap.size]? = some (.cells #[Value.int IntKind.u8 0, Value.int IntKind.u8 0, Value.int IntKind.u8 0, Value.int IntKind.u8 0, Value.int IntKind.u8 0, Value.int IntKind.u8 0, Value.int IntKind.u8 0, Value.int IntKind.u8 0, Value.int IntKind.u8 0, Value.int IntKind.u8 0, Value.int IntKind.u8 0, Value.int IntKind.u8 0, Value.int IntKind.u8 0, Value.int IntKind.u8 0, Value.int IntKind.u8 0, Value.int IntKind.u8 0, Value.int IntKind.u8 0, Value.int IntKind.u8 0, Value.int IntKind.u8 0, Value.int IntKind.u8 0] 25 (0, 0))) := heap_alloc_new v2 _
        have q6 : Hid (W5.heap.size ≤ v2.heap.size) := d2.size
        refine hK.out _ _ d6 (fun hHeld => ?_)
        clear hK K
        try simp only [Act.put, List.setIfInBounds_toArray, List.set_cons_zero, List.set_cons_succ]
        refine wpAnyH_ready (rs := [5]) (by kernel_rfl) (by simp) ?_
        refine AllReadyH.cons rfl (fun K hK => ?_) AllReadyH.nil
        go_simp
        refine (ZS.out _).mono ?_
        rintro e v7 ⟨rfl, hb⟩
        have d7 : Below W5.heap.size W5 v7 := d6.trans (hb.mono d6.size)
        have y7 : Hid (v7.heap[v2.heap.size]? = some (.cells #[Value.int IntKind.u8 0, Value.int IntKind.u8 0, Value.int IntKind.u8 0, Value.int IntKind.u8 0, Value.int IntKind.u8 0, Value.int IntKind.u8 0, Value.int IntKind.u8 0, Value.int IntKind.u8 0, Value.int IntKind.u8 0, Value.int IntKind.u8 0, Value.int IntKind.u8 0, Value.int IntKind.u8 0, Value.int IntKind.u8 0, Value.int IntKind.u8 0, Value.int IntKind.u8 0, Value.int IntKind.u8 0, Value.int IntKind.u8 0, Value.int IntKind.u8 0, Value.int IntKind.u8 0, Value.int IntKind.u8 0] 25 (0, 0))) := (hb.block _ (lt_of_some y6.out)).trans y6.out
        clear hb
        refine hK.out _ _ d7 (fun hHeld => ?_)
        clear hK K
        try simp only [Act.put, List.setIfInBounds_toArray, List.set_cons_zero, List.set_cons_succ]
        refine wpAnyH_ready (rs := [7]) (by kernel_rfl) (by simp) ?_
        refine AllReadyH.cons rfl (fun K hK => ?_) AllReadyH.nil
        rw [if_pos (by rfl)]
        refine wp_store_mid _ _ _ rfl (v2.heap.size) 0 (idC (succN S k)).toArray rfl rfl (by rw [sizeC]; exact there_of y7.out 20 (Nat.le_refl _)) (infoC _) (all_oneCell_toArray (idC_one _)) ?_
        rw [List.toList_toArray]
        have d8 := d7.trans (Lib.below_setCells_w q6.out (idC (succN S k)) 0 _)
        refine hK.out _ _ d8 (fun hHeld => ?_)
        clear hK K
        refine wpAnyH_done (by kernel_rfl) (NoPanic.normal ?_) _
        have z8 := store_whole y7.out (show 20 = (idC (succN S k)).length by rw [idC_length])
        go_wp2
        go_meet
        case rel => exact ⟨_, rfl, d8, q6, z8⟩
      refine AllReadyH.cons rfl (fun K hK => ?_) AllReadyH.nil
      go_simp
      have d9 : Below W5.heap.size W5 (v1.alloc (Obj.cells #[Value.int IntKind.u8 0, Value.int IntKind.u8 0, Value.int IntKind.u8 0, Value.int IntKind.u8 0, Value.int IntKind.u8 0, Value.int IntKind.u8 0, Value.int IntKind.u8 0, Value.int IntKind.u8 0, Value.int IntKind.u8 0, Value.int IntKind.u8 0, Value.int IntKind.u8 0, Value.int IntKind.u8 0, Value.int IntKind.u8 0, Value.int IntKind.u8 0, Value.int IntKind.u8 0, Value.int IntKind.u8 0, Value.int IntKind.u8 0, Value.int IntKind.u8 0, Value.int IntKind.u8 0, Value.int IntKind.u8 0] 25)) := d1.alloc d1.size _
      have y9 : Hid ((v1.alloc (Obj.cells #[Value.int IntKind.u8 0, Value.int IntKind.u8 0, Value.int IntKind.u8 0, Value.int IntKind.u8 0, Value.int IntKind.u8 0, Value.int IntKind.u8 0, Value.int IntKind.u8 0, Value.int IntKind.u8 0, Value.int IntKind.u8 0, Value.int IntKind.u8 0, Value.int IntKind.u8 0, Value.int IntKind.u8 0, Value.int IntKind.u8 0, Value.int IntKind.u8 0, Value.int IntKind.u8 0, Value.int IntKind.u8 0, Value.int IntKind.u8 0, Value.int IntKind.u8 0, Value.int IntKind.u8 0, Value.int IntKind.u8 0] 25)).heap[v1.heap.size]? = some (.cells #[Value.int IntKind.u8 0, Value.int IntKind.u8 0, Value.int IntKind.u8 0, Value.int IntKind.u8 0, Value.int IntKind.u8 0, Value.int IntKind.u8 0, Value.int IntKind.u8 0, Value.int IntKind.u8 0, Value.int IntKind.u8 0, Value.int IntKind.u8 0, Value.int IntKind.u8 0, Value.int IntKind.u8 0, Value.int IntKind.u8 0, Value.int IntKind.u8 0, Value.int IntKind.u8 0, Value.int IntKind.u8 0, Value.int IntKind.u8 0, Value.int IntKind.u8 0, Value.int IntKind.u8 0, Value.int IntKind.u8 0] 25 (0, 0))) := heap_alloc_new v1 _
      have q9 : Hid (W5.heap.size ≤ v1.heap.size) := d1.size
      refine hK.out _ _ d9 (fun hHeld => ?_)
      clear hK K
      try simp only [Act.put, List.setIfInBounds_toArray, List.set_cons_zero, List.set_cons_succ]
      refine wpAnyH_ready (rs := [4]) (by kernel_rfl) (by simp) ?_
      refine AllReadyH.cons rfl (fun K hK => ?_) AllReadyH.nil
      go_simp
      refine (zzsub_any 0 k (by omega) (by omega) _).mono ?_
      rintro e v10 ⟨rfl, hb⟩
      have d10 : Below W5.heap.size W5 v10 := d9.trans (hb.mono d9.size)
      have y10 : Hid (v10.heap[v1.heap.size]? = some (.cells #[Value.int IntKind.u8 0, Value.int IntKind.u8 0, Value.int IntKind.u8 0, Value.int IntKind.u8 0, Value.int IntKind.u8 0, Value.int IntKind.u8 0, Value.int IntKind.u8 0, Value.int IntKind.u8 0, Value.int IntKind.u8 0, Value.int IntKind.u8 0, Value.int IntKind.u8 0, Value.int IntKind.u8 0, Value.int IntKind.u8 0, Value.int IntKind.u8 0, Value.int IntKind.u8 0, Value.int IntKind.u8 0, Value.int IntKind.u8 0, Value.int IntKind.u8 0, Value.int IntKind.u8 0, Value.int IntKind.u8 0] 25 (0, 0))) := (hb.block _ (lt_of_some y9.out)).trans y9.out
      clear hb
      refine hK.out _ _ d10 (fun hHeld => ?_)
      clear hK K
      try simp only [Act.put, List.setIfInBounds_toArray, List.set_cons_zero, List.set_cons_succ]
      refine wpAnyH_ready (rs := [5]) (by kernel_rfl) (by simp) ?_
      refine AllReadyH.cons rfl (fun K hK => ?_) AllReadyH.nil
      go_simp
      refine (ZS.out _).mono ?_
      rintro e v11 ⟨rfl, hb⟩
      have d11 : Below W5.heap.size W5 v11 := d10.trans (hb.mono d10.size)
      have y11 : Hid (v11.heap[v1.heap.size]? = some (.cells #[Value.int IntKind.u8 0, Value.int IntKind.u8 0, Value.int IntKind.u8 0, Value.int IntKind.u8 0, Value.int IntKind.u8 0, Value.int IntKind.u8 0, Value.int IntKind.u8 0, Value.int IntKind.u8 0, Value.int IntKind.u8 0, Value.int IntKind.u8 0, Value.int IntKind.u8 0, Value.int IntKind.u8 0, Value.int IntKind.u8 0, Value.int IntKind.u8 0, Value.int IntKind.u8 0, Value.int IntKind.u8 0, Value.int IntKind.u8 0, Value.int IntKind.u8 0, Value.int IntKind.u8 0, Value.int IntKind.u8 0] 25 (0, 0))) := (hb.block _ (lt_of_some y10.out)).trans y10.out
      clear hb
      refine hK.out _ _ d11 (fun hHeld => ?_)
      clear hK K
      try simp only [Act.put, List.setIfInBounds_toArray, List.set_cons_zero, List.set_cons_succ]
      refine wpAnyH_ready (rs := [7]) (by kernel_rfl) (by simp) ?_
      refine AllReadyH.cons rfl (fun K hK => ?_) AllReadyH.nil
      rw [if_pos (by rfl)]
      refine wp_store_mid _ _ _ rfl (v1.heap.size) 0 (idC (succN S k)).toArray rfl rfl (by rw [sizeC]; exact there_of y11.out 20 (Nat.le_refl _)) (infoC _) (all_oneCell_toArray (idC_one _)) ?_
      rw [List.toList_toArray]
      have d12 := d11.trans (Lib.below_setCells_w q9.out (idC (succN S k)) 0 _)
      refine hK.out _ _ d12 (fun hHeld => ?_)
      clear hK K
      refine wpAnyH_done (by kernel_rfl) (NoPanic.normal ?_) _
      have z12 := store_whole y11.out (show 20 = (idC (succN S k)).length by rw [idC_length])
      go_wp2
      go_meet
      case rel => exact ⟨_, rfl, d12, q9, z12⟩
    refine AllReadyH.cons rfl (fun K hK => ?_) AllReadyH.nil
    go_simp
    have d13 : Below W5.heap.size W5 (W5.alloc (Obj.cells #[Value.int IntKind.u8 0, Value.int IntKind.u8 0, Value.int IntKind.u8 0, Value.int IntKind.u8 0, Value.int IntKind.u8 0, Value.int IntKind.u8 0, Value.int IntKind.u8 0, Value.int IntKind.u8 0, Value.int IntKind.u8 0, Value.int IntKind.u8 0, Value.int IntKind.u8 0, Value.int IntKind.u8 0, Value.int IntKind.u8 0, Value.int IntKind.u8 0, Value.int IntKind.u8 0, Value.int IntKind.u8 0, Value.int IntKind.u8 0, Value.int IntKind.u8 0, Value.int IntKind.u8 0, Value.int IntKind.u8 0] 25)).drew := ((Below.refl _ _).alloc (Nat.le_refl _) _).drew
    have y13 : Hid ((W5.alloc (Obj.cells #[Value.int IntKind.u8 0, Value.int IntKind.u8 0, Value.int IntKind.u8 0, Value.int IntKind.u8 0, Value.int IntKind.u8 0, Value.int IntKind.u8 0, Value.int IntKind.u8 0, Value.int IntKind.u8 0, Value.int IntKind.u8 0, Value.int IntKind.u8 0, Value.int IntKind.u8 0, Value.int IntKind.u8 0, Value.int IntKind.u8 0, Value.int IntKind.u8 0, Value.int IntKind.u8 0, Value.int IntKind.u8 0, Value.int IntKind.u8 0, Value.int IntKind.u8 0, Value.int IntKind.u8 0, Value.int IntKind.u8 0] 25)).drew.heap[W5.heap.size]? = some (.cells #[Value.int IntKind.u8 0, Value.int IntKind.u8 0, Value.int IntKind.u8 0, Value.int IntKind.u8 0, Value.int IntKind.u8 0, Value.int IntKind.u8 0, Value.int IntKind.u8 0, Value.int IntKind.u8 0, Value.int IntKind.u8 0, Value.int IntKind.u8 0, Value.int IntKind.u8 0, Value.int IntKind.u8 0, Value.int IntKind.u8 0, Value.int IntKind.u8 0, Value.int IntKind.u8 0, Value.int IntKind.u8 0, Value.int IntKind.u8 0, Value.int IntKind.u8 0, Value.int IntKind.u8 0, Value.int IntKind.u8 0] 25 (0, 0))) := heap_alloc_new W5 _
    have q13 : Hid (W5.heap.size ≤ W5.heap.size) := Nat.le_refl _
    refine hK.out _ _ d13 (fun hHeld => ?_)
    clear hK K
    try simp only [Act.put, List.setIfInBounds_toArray, List.set_cons_zero, List.set_cons_succ]
    refine wpAnyH_ready (rs := [3]) (by kernel_rfl) (by simp) ?_
    refine AllReadyH.cons rfl (fun K hK => ?_) AllReadyH.nil
    go_simp
    refine (from_any k hk _).mono ?_
    rintro e v14 ⟨rfl, hb⟩
    have d14 : Below W5.heap.size W5 v14 := d13.trans (hb.mono d13.size)
    have y14 : Hid (v14.heap[W5.heap.size]? = some (.cells #[Value.int IntKind.u8 0, Value.int IntKind.u8 0, Value.int IntKind.u8 0, Value.int IntKind.u8 0, Value.int IntKind.u8 0, Value.int IntKind.u8 0, Value.int IntKind.u8 0, Value.int IntKind.u8 0, Value.int IntKind.u8 0, Value.int IntKind.u8 0, Value.int IntKind.u8 0, Value.int IntKind.u8 0, Value.int IntKind.u8 0, Value.int IntKind.u8 0, Value.int IntKind.u8 0, Value.int IntKind.u8 0, Value.int IntKind.u8 0, Value.int IntKind.u8 0, Value.int IntKind.u8 0, Value.int IntKind.u8 0] 25 (0, 0))) := (hb.block _ (lt_of_some y13.out)).trans y13.out
    clear hb
    refine hK.out _ _ d14 (fun hHeld => ?_)
    clear hK K
    try simp only [Act.put, List.setIfInBounds_toArray, List.set_cons_zero, List.set_cons_succ]
    refine wpAnyH_ready (rs := [4]) (by kernel_rfl) (by simp) ?_
    refine AllReadyH.cons rfl (fun K hK => ?_) AllReadyH.nil
    go_simp
    refine (zzsub_any 0 k (by omega) (by omega) _).mono ?_
    rintro e v15 ⟨rfl, hb⟩
    have d15 : Below W5.heap.size W5 v15 := d14.trans (hb.mono d14.size)
    have y15 : Hid (v15.heap[W5.heap.size]? = some (.cells #[Value.int IntKind.u8 0, Value.int IntKind.u8 0, Value.int IntKind.u8 0, Value.int IntKind.u8 0, Value.int IntKind.u8 0, Value.int IntKind.u8 0, Value.int IntKind.u8 0, Value.int IntKind.u8 0, Value.int IntKind.u8 0, Value.int IntKind.u8 0, Value.int IntKind.u8 0, Value.int IntKind.u8 0, Value.int IntKind.u8 0, Value.int IntKind.u8 0, Value.int IntKind.u8 0, Value.int IntKind.u8 0, Value.int IntKind.u8 0, Value.int IntKind.u8 0, Value.int IntKind.u8 0, Value.int IntKind.u8 0] 25 (0, 0))) := (hb.block _ (lt_of_some y14.out)).trans y14.out
    clear hb
    refine hK.out _ _ d15 (fun hHeld => ?_)
    clear hK K
    try simp only [Act.put, List.setIfInBounds_toArray, List.set_cons_zero, List.set_cons_succ]
    refine wpAnyH_ready (rs := [5]) (by kernel_rfl) (by simp) ?_
    refine AllReadyH.cons rfl (fun K hK => ?_) AllReadyH.nil
    go_simp
    refine (ZS.out _).mono ?_
    rintro e v16 ⟨rfl, hb⟩
    have d16 : Below W5.heap.size W5 v16 := d15.trans (hb.mono d15.size)
    have y16 : Hid (v16.heap[W5.heap.size]? = some (.cells #[Value.int IntKind.u8 0, Value.int IntKind.u8 0, Value.int IntKind.u8 0, Value.int IntKind.u8 0, Value.int IntKind.u8 0, Value.int IntKind.u8 0, Value.int IntKind.u8 0, Value.int IntKind.u8 0, Value.int IntKind.u8 0, Value.int IntKind.u8 0, Value.int IntKind.u8 0, Value.int IntKind.u8 0, Value.int IntKind.u8 0, Value.int IntKind.u8 0, Value.int IntKind.u8 0, Value.int IntKind.u8 0, Value.int IntKind.u8 0, Value.int IntKind.u8 0, Value.int IntKind.u8 0, Value.int IntKind.u8 0] 25 (0, 0))) := (hb.block _ (lt_of_some y15.out)).trans y15.out
    clear hb
    refine hK.out _ _ d16 (fun hHeld => ?_)
    clear hK K
    try simp only [Act.put, List.setIfInBounds_toArray, List.set_cons_zero, List.set_cons_succ]
    refine wpAnyH_ready (rs := [7]) (by kernel_rfl) (by simp) ?_
    refine AllReadyH.cons rfl (fun K hK => ?_) AllReadyH.nil
    rw [if_pos (by rfl)]
    refine wp_store_mid _ _ _ rfl (W5.heap.size) 0 (idC (succN S k)).toArray rfl rfl (by rw [sizeC]; exact there_of y16.out 20 (Nat.le_refl _)) (infoC _) (all_oneCell_toArray (idC_one _)) ?_
    rw [List.toList_toArray]
    have d17 := d16.trans (Lib.below_setCells_w q13.out (idC (succN S k)) 0 _)
    refine hK.out _ _ d17 (fun hHeld => ?_)
    clear hK K
    refine wpAnyH_done (by kernel_rfl) (NoPanic.normal ?_) _
    have z17 := store_whole y16.out (show 20 = (idC (succN S k)).length by rw [idC_length])
    go_wp2
    go_meet
    case rel => exact ⟨_, rfl, d17, q13, z17⟩
  case rest =>
    obtain ⟨g, rfl, bc, hg, hc⟩ := hcut
    clear ZS
    obtain ⟨b, hb⟩ : ∃ b, b = (inR s && decide (k = 0)) := ⟨_, rfl⟩
    have HB : Hid (b = (inR s && decide (k = 0))) := hb
    clear hb
    go_upto_region 7 with fail
    go_cut [11] (fun v w' => v = .bool b ∧ Hid (w' = wc))
    case first =>
      go_wp2
      all_goals
        go_meet
        case rel => exact ⟨by rw [HB.out]; simp [inR, k0_eq k, *], rfl⟩
    case rest =>
      obtain ⟨rfl, hw⟩ := hcut
      have hw' := hw.out
      clear hw
      subst hw'
      have c0 := (bc.block _ (lt_of_some G0.out)).trans G0.out
      have c1 := (bc.block _ (lt_of_some G1.out)).trans G1.out
      have C0 : Hid _ := c0
      have C1 : Hid _ := c1
      have bwc : Below w.heap.size w wc := bw5.trans (bc.mono bw5.size)
      have iC := infoC (succN S k)
      obtain ⟨D, hD⟩ : ∃ D, D = idC (succN S k) := ⟨_, rfl⟩
      rw [← hD] at hc iC
      have HD : Hid (D = idC (succN S k)) := hD
      have ID : Hid _ := iC
      have lg := lt_of_some hc.out
      clear c0 c1 G0 G1 hD iC bc bw5 Z5
      have a1 : Hid (∀ wx, Calls Try.prog 14 #[.string s, .agg CS.toArray, .agg D.toArray] wx fun e w' => e = .returned (.bool b) ∧ Below wx.heap.size wx w') := fun wx => by
        have := zzalone_any S (succN S k) s wx hS (subN_lt _ _)
        rw [succ_eq S k hS hk, ← HB.out, ← HS.out, ← HD.out] at this
        exact this
      go_wp2_with (first
        | (refine wpList_load_row rfl 22 (.tmp 5) rfl w.heap.size rfl 22 CS.toArray (0, 0) _ C0.out Try.underlying22 rfl IS.out ?_)
        | (refine wpList_load_row rfl 25 (.tmp 10) rfl g rfl 25 D.toArray (0, 0) _ hc.out Try.underlying25 rfl ID.out ?_)
        | (go_at_call 14; refine (a1.out _).mono ?_; rintro e w8 ⟨rfl, b8⟩))
      have e0 := (b8.block _ (lt_of_some C0.out)).trans C0.out
      have e1 := (b8.block _ (lt_of_some C1.out)).trans C1.out
      have e2 := (b8.block _ lg).trans hc.out
      have E0 : Hid _ := e0
      have E1 : Hid _ := e1
      have E2 : Hid _ := e2
      have bw8 : Below w.heap.size w w8 := bwc.trans (b8.mono bwc.size)
      clear e0 e1 e2 a1 C0 C1 hc b8 bwc
      have s1 : Hid (∀ wx, Calls Try.prog 10 #[.agg CS.toArray, .agg CX.toArray] wx fun e w' => e = .returned (.agg (idC (subN S X)).toArray) ∧ Below wx.heap.size wx w') := fun wx => by
        rw [HS.out, HX.out]; exact zzsub_any S X hS hX wx
      have s2 : Hid (∀ wx, Calls Try.prog 10 #[.agg D.toArray, .agg CX.toArray] wx fun e w' => e = .returned (.agg (idC (subN (succN S k) X)).toArray) ∧ Below wx.heap.size wx w') := fun wx => by
        rw [HD.out, HX.out]; exact zzsub_any (succN S k) X (subN_lt _ _) hX wx
      have a2 : Hid (∀ wx, Calls Try.prog 14 #[.string s, .agg (idC (subN S X)).toArray, .agg (idC (subN (succN S k) X)).toArray] wx fun e w' => e = .returned (.bool b) ∧ Below wx.heap.size wx w') := fun wx => by
        have := zzalone_any (subN S X) (subN (succN S k) X) s wx (subN_lt _ _) (subN_lt _ _)
        rw [turn_eq S k X hS hk hX, ← HB.out] at this
        exact this
      refine wp_region_noPanic ?_
      refine wp_region_held_drew (S := Below w8.heap.size w8) (by kernel_rfl) (Below.refl _ _).drew (fun hHeld => ?_)
      refine wpAnyH_take (i := 0) (v := .string s) rfl (by kernel_rfl) (by kernel_rfl) (by kernel_rfl) (fun _ _ _ h => h) (Or.inl ⟨by rfl, fun wx _ => by go_simp⟩) hHeld ?_
      refine wpAnyH_take (i := 1) (v := .agg CS.toArray) rfl (by kernel_rfl) (by kernel_rfl) (by kernel_rfl) (fun _ _ _ h => h) (yieldsIf_load_mid (by rfl) _ _ rfl (w.heap.size) 0 rfl CS _ (fun _ h => range_of (T := 22) ((h.block _ (lt_of_some E0.out)).trans E0.out)) Try.underlying22 rfl (by rw [HS.out]; exact info22 S)) hHeld ?_
      refine wpAnyH_take (i := 2) (v := .agg CX.toArray) rfl (by kernel_rfl) (by kernel_rfl) (by kernel_rfl) (fun _ _ _ h => h) (yieldsIf_load_mid (by rfl) _ _ rfl (w.heap.size + 1) 0 rfl CX _ (fun _ h => range_of (T := 22) ((h.block _ (lt_of_some E1.out)).trans E1.out)) Try.underlying22 rfl (by rw [HX.out]; exact info22 X)) hHeld ?_
      refine wpAnyH_take (i := 4) (v := .agg D.toArray) rfl (by kernel_rfl) (by kernel_rfl) (by kernel_rfl) (fun _ _ _ h => h) (yieldsIf_load_mid (by rfl) _ _ rfl (g) 0 rfl D _ (fun _ h => range_of (T := 25) ((h.block _ (lt_of_some E2.out)).trans E2.out)) Try.underlying25 rfl (by rw [HD.out]; exact info25 _)) hHeld ?_
      refine wpAnyH_take (i := 5) (v := .agg CX.toArray) rfl (by kernel_rfl) (by kernel_rfl) (by kernel_rfl) (fun _ _ _ h => h) (yieldsIf_load_mid (by rfl) _ _ rfl (w.heap.size + 1) 0 rfl CX _ (fun _ h => range_of (T := 22) ((h.block _ (lt_of_some E1.out)).trans E1.out)) Try.underlying22 rfl (by rw [HX.out]; exact info22 X)) hHeld ?_
      refine wpAnyH_take (i := 8) (v := .bool b) rfl (by kernel_rfl) (by kernel_rfl) (by kernel_rfl) (fun _ _ _ h => h) (Or.inl ⟨by rfl, fun wx _ => by go_simp⟩) hHeld ?_
      try simp only [Act.put, List.setIfInBounds_toArray, List.set_cons_zero, List.set_cons_succ]
      refine wpAnyH_ready (rs := [3]) (by kernel_rfl) (by simp) ?_
      refine AllReadyH.cons rfl (fun K hK => ?_) AllReadyH.nil
      go_simp
      refine (s1.out _).mono ?_
      rintro e v1 ⟨rfl, hb⟩
      have d1 : Below w8.heap.size w8 v1 := hHeld.trans (hb.mono hHeld.size)
      clear hb
      refine hK.out _ _ d1 (fun hHeld => ?_)
      clear hK K
      try simp only [Act.put, List.setIfInBounds_toArray, List.set_cons_zero, List.set_cons_succ]
      refine wpAnyH_ready (rs := [6]) (by kernel_rfl) (by simp) ?_
      refine AllReadyH.cons rfl (fun K hK => ?_) AllReadyH.nil
      go_simp
      refine (s2.out _).mono ?_
      rintro e v2 ⟨rfl, hb⟩
      have d2 : Below w8.heap.size w8 v2 := d1.trans (hb.mono d1.size)
      clear hb
      refine hK.out _ _ d2 (fun hHeld => ?_)
      clear hK K
      try simp only [Act.put, List.setIfInBounds_toArray, List.set_cons_zero, List.set_cons_succ]
      refine wpAnyH_ready (rs := [7]) (by kernel_rfl) (by simp) ?_
      refine AllReadyH.cons rfl (fun K hK => ?_) AllReadyH.nil
      go_simp
      refine (a2.out _).mono ?_
      rintro e v3 ⟨rfl, hb⟩
      have d3 : Below w8.heap.size w8 v3 := d2.trans (hb.mono d2.size)
      clear hb
      refine hK.out _ _ d3 (fun hHeld => ?_)
      clear hK K
      try simp only [Act.put, List.setIfInBounds_toArray, List.set_cons_zero, List.set_cons_succ]
      refine wpAnyH_ready (rs := [9]) (by kernel_rfl) (by simp) ?_
      refine AllReadyH.cons rfl (fun K hK => ?_) AllReadyH.nil
      go_simp
      refine hK.out _ _ d3 (fun hHeld => ?_)
      clear hK K
      try simp only [Act.put, List.setIfInBounds_toArray, List.set_cons_zero, List.set_cons_succ]
      refine wpAnyH_ready (rs := [10]) (by kernel_rfl) (by simp) ?_
      refine AllReadyH.cons rfl (fun K hK => ?_) AllReadyH.nil
      go_simp
      refine hK.out _ _ d3 (fun hHeld => ?_)
      clear hK K
      refine wpAnyH_done (by kernel_rfl) (NoPanic.normal ?_) _
      try simp only [Act.put, List.setIfInBounds_toArray, List.set_cons_zero, List.set_cons_succ]
      go_wp2
      go_ret
      exact ⟨rfl, bw8.trans (d3.mono bw8.size)⟩
end Go.Proofs.Qxb6614219a
