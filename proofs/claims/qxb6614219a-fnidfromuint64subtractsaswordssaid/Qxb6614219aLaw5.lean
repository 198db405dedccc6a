/-
  THE WALK of 'FnIDFromUint64SubtractsAsWords'.
-/
import Derived.Test.Qxb6614219aFrom
import Derived.Test.Qxb6614219aWant
import Derived.Test.Qxb6614219aEq
namespace Go.Proofs.Qxb6614219a
open Go.RowKit
set_option linter.unusedVariables false
set_option linter.unusedSimpArgs false

theorem bytes_cell' {w : World} {B T : Nat} {l : List UInt8} (h : w.heap[B]? = some (.cells (Lib.byteCells l).toArray T (0, 0))) (j : Nat) (hj : j < l.length) : w.cell? ⟨B, j, none⟩ = some (.int .u8 (l.getD j 0).toNat) := by
  simp [World.cell?, h, Lib.byteCells, hj]
theorem val_eq (D j : Nat) : ((D : Int) / 2 ^ (8 * j) % 256) = (((D / 256 ^ j % 256).toUInt8).toNat : Int) := by
  rw [Lib.toUInt8_mod]
  have h : ((2 : Int) ^ (8 * j)) = ((256 ^ j : Nat) : Int) := by rw [Int.pow_mul]; simp
  rw [h]
  simp
theorem idC_set (l : List UInt8) (j : Nat) (b : UInt8) : (Lib.byteCells l).toArray.setIfInBounds j (.int .u8 b.toNat) = (Lib.byteCells (l.set j b)).toArray := by
  simp [Lib.byteCells, List.map_set]

set_option maxHeartbeats 2000000 in
set_option maxRecDepth 100000 in
theorem law5_ge (a b : Nat) (ha : a < 18446744073709551616) (hb : b < 18446744073709551616) (hab : b ≤ a) (w : World) :
    Calls Try.prog 5 #[.int .u64 a, .int .u64 b] w fun e w' => e = .returned (.bool true) ∧ Below w.heap.size w w' := by
  have hlt : ¬ (a : Int) < (b : Int) := by omega
  obtain ⟨D, hD⟩ : ∃ D, D = diffN a b := ⟨_, rfl⟩
  have hD64 : D < 18446744073709551616 := by rw [hD]; exact diffN_lt a b
  have eD : (a : Int) - (b : Int) = (D : Int) := by rw [hD]; unfold diffN; omega
  have HD : Hid (D = diffN a b) := hD
  clear hD
  go_enter Try.func5, Try.ntmps5
  go_wp2_with fail
  refine (from_any a ha _).mono ?_
  rintro e w1 ⟨rfl, b1⟩
  go_wp2_with fail
  refine (from_any b hb _).mono ?_
  rintro e w2 ⟨rfl, b2⟩
  go_wp2_with fail
  refine (zzsub_any a b (by omega) (by omega) _).mono ?_
  rintro e w3 ⟨rfl, b3⟩
  have k3 : Below w.heap.size w w3 := b1.trans ((b2.mono b1.size).trans (b3.mono (by have := b1.size; have := b2.size; omega)))
  clear b1 b2 b3
  obtain ⟨C, hC⟩ : ∃ C, C = idC (subN a b) := ⟨_, rfl⟩
  rw [← hC]
  have iC := infoC (subN a b)
  have iC' := info25 (subN a b)
  have oC := all_oneCell_toArray (idC_one (subN a b))
  have zC : 20 = C.toArray.size := by rw [hC]; exact (sizeC _).symm
  have i22 : (Try.prog.info? 22).map (·.size) = some C.toArray.size := by rw [← zC]; kernel_rfl
  have eC : ∀ wx, (Op.equalIn 10000 25 (.agg C.toArray) (.agg C.toArray)).run Try.prog wx = .ok true wx := fun wx => by
    rw [hC, equal_num _ _ (subN_lt a b) (subN_lt a b)]; simp
  rw [← hC] at iC oC iC'
  have HC : Hid (C = idC (subN a b)) := hC
  have I25 : Hid _ := iC
  have I22 : Hid _ := i22
  have ZC : Hid _ := zC
  clear hC iC i22 zC
  have g3 : (w3.alloc (Obj.cells #[Value.int IntKind.u8 0, Value.int IntKind.u8 0, Value.int IntKind.u8 0, Value.int IntKind.u8 0, Value.int IntKind.u8 0, Value.int IntKind.u8 0, Value.int IntKind.u8 0, Value.int IntKind.u8 0, Value.int IntKind.u8 0, Value.int IntKind.u8 0, Value.int IntKind.u8 0, Value.int IntKind.u8 0, Value.int IntKind.u8 0, Value.int IntKind.u8 0, Value.int IntKind.u8 0, Value.int IntKind.u8 0, Value.int IntKind.u8 0, Value.int IntKind.u8 0, Value.int IntKind.u8 0, Value.int IntKind.u8 0] 25)).heap[w3.heap.size]? = some (.cells #[Value.int IntKind.u8 0, Value.int IntKind.u8 0, Value.int IntKind.u8 0, Value.int IntKind.u8 0, Value.int IntKind.u8 0, Value.int IntKind.u8 0, Value.int IntKind.u8 0, Value.int IntKind.u8 0, Value.int IntKind.u8 0, Value.int IntKind.u8 0, Value.int IntKind.u8 0, Value.int IntKind.u8 0, Value.int IntKind.u8 0, Value.int IntKind.u8 0, Value.int IntKind.u8 0, Value.int IntKind.u8 0, Value.int IntKind.u8 0, Value.int IntKind.u8 0, Value.int IntKind.u8 0, Value.int IntKind.u8 0] 25 (0, 0)) := heap_alloc_new _ _
  have G3 : Hid _ := g3
  clear g3
  go_wp2_with (refine wpList_store_row rfl 25 (.tmp 5) (.tmp 14) rfl w3.heap.size C.toArray rfl rfl 25 #[Value.int IntKind.u8 0, Value.int IntKind.u8 0, Value.int IntKind.u8 0, Value.int IntKind.u8 0, Value.int IntKind.u8 0, Value.int IntKind.u8 0, Value.int IntKind.u8 0, Value.int IntKind.u8 0, Value.int IntKind.u8 0, Value.int IntKind.u8 0, Value.int IntKind.u8 0, Value.int IntKind.u8 0, Value.int IntKind.u8 0, Value.int IntKind.u8 0, Value.int IntKind.u8 0, Value.int IntKind.u8 0, Value.int IntKind.u8 0, Value.int IntKind.u8 0, Value.int IntKind.u8 0, Value.int IntKind.u8 0] G3.out I25.out ZC.out oC ?_)
  obtain ⟨W4, hW4⟩ : ∃ W4, W4 = ((w3.alloc (Obj.cells #[Value.int IntKind.u8 0, Value.int IntKind.u8 0, Value.int IntKind.u8 0, Value.int IntKind.u8 0, Value.int IntKind.u8 0, Value.int IntKind.u8 0, Value.int IntKind.u8 0, Value.int IntKind.u8 0, Value.int IntKind.u8 0, Value.int IntKind.u8 0, Value.int IntKind.u8 0, Value.int IntKind.u8 0, Value.int IntKind.u8 0, Value.int IntKind.u8 0, Value.int IntKind.u8 0, Value.int IntKind.u8 0, Value.int IntKind.u8 0, Value.int IntKind.u8 0, Value.int IntKind.u8 0, Value.int IntKind.u8 0] 25)).setRow w3.heap.size C.toArray).alloc (Obj.cells #[Value.int IntKind.u8 0, Value.int IntKind.u8 0, Value.int IntKind.u8 0, Value.int IntKind.u8 0, Value.int IntKind.u8 0, Value.int IntKind.u8 0, Value.int IntKind.u8 0, Value.int IntKind.u8 0, Value.int IntKind.u8 0, Value.int IntKind.u8 0, Value.int IntKind.u8 0, Value.int IntKind.u8 0, Value.int IntKind.u8 0, Value.int IntKind.u8 0, Value.int IntKind.u8 0, Value.int IntKind.u8 0, Value.int IntKind.u8 0, Value.int IntKind.u8 0, Value.int IntKind.u8 0, Value.int IntKind.u8 0] 22) := ⟨_, rfl⟩
  rw [← hW4]
  have q0 : W4.heap[w3.heap.size]? = some (.cells C.toArray 25 (0, 0)) := by
    rw [hW4, Below.heap_alloc _ _ _ (by simp)]; exact store_box G3.out
  have q1 : W4.heap[w3.heap.size + 1]? = some (.cells (Lib.byteCells (wantJ (high a b) D 0)).toArray 22 (0, 0)) := by
    rw [wantJ_zero, ← wantI_none a b (by omega), hW4]
    have := heap_alloc_new ((w3.alloc (Obj.cells #[Value.int IntKind.u8 0, Value.int IntKind.u8 0, Value.int IntKind.u8 0, Value.int IntKind.u8 0, Value.int IntKind.u8 0, Value.int IntKind.u8 0, Value.int IntKind.u8 0, Value.int IntKind.u8 0, Value.int IntKind.u8 0, Value.int IntKind.u8 0, Value.int IntKind.u8 0, Value.int IntKind.u8 0, Value.int IntKind.u8 0, Value.int IntKind.u8 0, Value.int IntKind.u8 0, Value.int IntKind.u8 0, Value.int IntKind.u8 0, Value.int IntKind.u8 0, Value.int IntKind.u8 0, Value.int IntKind.u8 0] 25)).setRow w3.heap.size C.toArray) (Obj.cells #[Value.int IntKind.u8 0, Value.int IntKind.u8 0, Value.int IntKind.u8 0, Value.int IntKind.u8 0, Value.int IntKind.u8 0, Value.int IntKind.u8 0, Value.int IntKind.u8 0, Value.int IntKind.u8 0, Value.int IntKind.u8 0, Value.int IntKind.u8 0, Value.int IntKind.u8 0, Value.int IntKind.u8 0, Value.int IntKind.u8 0, Value.int IntKind.u8 0, Value.int IntKind.u8 0, Value.int IntKind.u8 0, Value.int IntKind.u8 0, Value.int IntKind.u8 0, Value.int IntKind.u8 0, Value.int IntKind.u8 0] 22)
    rw [show (((w3.alloc (Obj.cells #[Value.int IntKind.u8 0, Value.int IntKind.u8 0, Value.int IntKind.u8 0, Value.int IntKind.u8 0, Value.int IntKind.u8 0, Value.int IntKind.u8 0, Value.int IntKind.u8 0, Value.int IntKind.u8 0, Value.int IntKind.u8 0, Value.int IntKind.u8 0, Value.int IntKind.u8 0, Value.int IntKind.u8 0, Value.int IntKind.u8 0, Value.int IntKind.u8 0, Value.int IntKind.u8 0, Value.int IntKind.u8 0, Value.int IntKind.u8 0, Value.int IntKind.u8 0, Value.int IntKind.u8 0, Value.int IntKind.u8 0] 25)).setRow w3.heap.size C.toArray)).heap.size = w3.heap.size + 1 by simp] at this
    exact this
  have q2 : Below w.heap.size w W4 := by
    rw [hW4]
    exact (below_setRow (k3.alloc k3.size _) k3.size _).alloc (by have := k3.size; simp; omega) _
  have Q0 : Hid _ := q0
  have Q1 : Hid _ := q1
  have hP := high_length a b
  have HP : Hid _ := hP
  have hsz := k3.size
  clear hW4 q0 q1 hP G3
  go_loopw [9] (fun vj wr => ∃ j : Nat, j ≤ 8 ∧ vj = .int .i64 j ∧ Hid (wr.heap[w3.heap.size + 1]? = some (.cells (Lib.byteCells (wantJ (high a b) D j)).toArray 22 (0, 0))) ∧ Hid (wr.heap[w3.heap.size]? = some (.cells C.toArray 25 (0, 0))) ∧ Below w.heap.size w wr) (fun vj _ => 8 - (intOf vj).toNat)
  case atStart => exact ⟨0, by omega, rfl, Q1, Q0, q2⟩
  case round =>
    obtain ⟨j, hj, rfl, R1, R0, r2⟩ := hrel
    by_cases hj8 : j < 8
    · obtain ⟨k, hk⟩ : ∃ k, k = 19 - j := ⟨_, rfl⟩
      have ek : (19 : Int) - (j : Int) = (k : Int) := by omega
      have hk20 : k < 20 := by omega
      obtain ⟨u, hu⟩ : ∃ u, wr.cell? ⟨w3.heap.size + 1, k, none⟩ = some u := ⟨_, bytes_cell' R1.out k (by rw [wantJ_length _ _ _ HP.out hj]; exact hk20)⟩
      have fz := free_of R1.out k
      have HK : Hid (k = 19 - j) := hk
      clear hk
      go_wp2
      have ev : ((D : Int) / 2 ^ (8 * j) % 256) = (((D / 256 ^ j % 256).toUInt8).toNat : Int) := val_eq D j
      have c1 := heap_setCell_same wr (w3.heap.size + 1) k _ 22 (.int .u8 ((D / 256 ^ j % 256).toUInt8).toNat) R1.out
      rw [idC_set, HK.out, wantJ_set _ _ _ HP.out hj8, ← HK.out] at c1
      have c0 := (Below.heap_setCell wr ⟨w3.heap.size + 1, k, none⟩ (.int .u8 ((D / 256 ^ j % 256).toUInt8).toNat) w3.heap.size (by show w3.heap.size ≠ w3.heap.size + 1; omega)).trans R0.out
      rw [ev]
      exact ⟨⟨j + 1, by omega, by go_num, c1, c0, r2.setCell (by show w.heap.size ≤ w3.heap.size + 1; omega) _⟩, by simp [intOf]; omega⟩
    · obtain rfl : j = 8 := by omega
      have p1 := R1.out
      rw [wantJ_full, HD.out, ← sub_bytes a b ha hb] at p1
      have P1 : Hid (wr.heap[w3.heap.size + 1]? = some (.cells C.toArray 22 (0, 0))) := by rw [HC.out]; exact p1
      clear p1 R1
      have hge : (b : Int) ≤ (a : Int) := by omega
      have s0 : wr.drew.rangeAt w3.heap.size 0 C := range_of (T := 25) R0.out
      have hu := Try.underlying25
      go_wp2_with (first
        | (refine wpList_load_row rfl 25 (.tmp 5) rfl w3.heap.size rfl 25 C.toArray (0, 0) _ R0.out Try.underlying25 rfl I25.out ?_)
        | (refine wpList_load_row rfl 22 (.tmp 6) rfl (w3.heap.size + 1) rfl 22 C.toArray (0, 0) _ P1.out Try.underlying22 rfl I22.out ?_))
      have hfr : Hid (∀ wx, Calls Try.prog 11 #[.int .u64 D] wx fun e w' => e = .returned (.agg C.toArray) ∧ Below wx.heap.size wx w') := fun wx => by
        rw [HC.out, sub_ge a b ha hab, ← HD.out]; exact from_any D hD64 wx
      have ks : Hid (∀ wx, Below wr.drew.heap.size wr.drew wx → wx.rangeAt w3.heap.size 0 C) := fun wx h => range_of (T := 25) ((h.block w3.heap.size (lt_of_some R0.out)).trans R0.out)
      go_region_held3 (fun w' => w'.rangeAt w3.heap.size 0 C) (first | exact s0 | exact s1) ((go_at_call 11; refine (hfr.out _).mono ?_; rintro e w9 ⟨rfl, hb9⟩; have s1 := ks.out _ hb9))
      go_wp2
      go_ret
      exact ⟨rfl, r2.drew.trans (hb9.mono r2.size)⟩
set_option maxHeartbeats 2000000 in
set_option maxRecDepth 100000 in
theorem law5_lt (a b : Nat) (ha : a < 18446744073709551616) (hb : b < 18446744073709551616) (hab : a < b) (w : World) :
    Calls Try.prog 5 #[.int .u64 a, .int .u64 b] w fun e w' => e = .returned (.bool true) ∧ Below w.heap.size w w' := by
  have hlt : (a : Int) < (b : Int) := by omega
  obtain ⟨D, hD⟩ : ∃ D, D = diffN a b := ⟨_, rfl⟩
  have hD64 : D < 18446744073709551616 := by rw [hD]; exact diffN_lt a b
  have eD : IntKind.u64.wrap ((a : Int) - (b : Int)) = (D : Int) := by rw [hD, IntKind.wrap_u64]; unfold diffN; omega
  have HD : Hid (D = diffN a b) := hD
  clear hD
  go_enter Try.func5, Try.ntmps5
  go_wp2_with fail
  refine (from_any a ha _).mono ?_
  rintro e w1 ⟨rfl, b1⟩
  go_wp2_with fail
  refine (from_any b hb _).mono ?_
  rintro e w2 ⟨rfl, b2⟩
  go_wp2_with fail
  refine (zzsub_any a b (by omega) (by omega) _).mono ?_
  rintro e w3 ⟨rfl, b3⟩
  have k3 : Below w.heap.size w w3 := b1.trans ((b2.mono b1.size).trans (b3.mono (by have := b1.size; have := b2.size; omega)))
  clear b1 b2 b3
  obtain ⟨C, hC⟩ : ∃ C, C = idC (subN a b) := ⟨_, rfl⟩
  rw [← hC]
  have iC := infoC (subN a b)
  have iC' := info25 (subN a b)
  have oC := all_oneCell_toArray (idC_one (subN a b))
  have zC : 20 = C.toArray.size := by rw [hC]; exact (sizeC _).symm
  have i22 : (Try.prog.info? 22).map (·.size) = some C.toArray.size := by rw [← zC]; kernel_rfl
  have eC : ∀ wx, (Op.equalIn 10000 25 (.agg C.toArray) (.agg C.toArray)).run Try.prog wx = .ok true wx := fun wx => by
    rw [hC, equal_num _ _ (subN_lt a b) (subN_lt a b)]; simp
  rw [← hC] at iC oC iC'
  have HC : Hid (C = idC (subN a b)) := hC
  have I25 : Hid _ := iC
  have I22 : Hid _ := i22
  have ZC : Hid _ := zC
  clear hC iC i22 zC
  have g3 : (w3.alloc (Obj.cells #[Value.int IntKind.u8 0, Value.int IntKind.u8 0, Value.int IntKind.u8 0, Value.int IntKind.u8 0, Value.int IntKind.u8 0, Value.int IntKind.u8 0, Value.int IntKind.u8 0, Value.int IntKind.u8 0, Value.int IntKind.u8 0, Value.int IntKind.u8 0, Value.int IntKind.u8 0, Value.int IntKind.u8 0, Value.int IntKind.u8 0, Value.int IntKind.u8 0, Value.int IntKind.u8 0, Value.int IntKind.u8 0, Value.int IntKind.u8 0, Value.int IntKind.u8 0, Value.int IntKind.u8 0, Value.int IntKind.u8 0] 25)).heap[w3.heap.size]? = some (.cells #[Value.int IntKind.u8 0, Value.int IntKind.u8 0, Value.int IntKind.u8 0, Value.int IntKind.u8 0, Value.int IntKind.u8 0, Value.int IntKind.u8 0, Value.int IntKind.u8 0, Value.int IntKind.u8 0, Value.int IntKind.u8 0, Value.int IntKind.u8 0, Value.int IntKind.u8 0, Value.int IntKind.u8 0, Value.int IntKind.u8 0, Value.int IntKind.u8 0, Value.int IntKind.u8 0, Value.int IntKind.u8 0, Value.int IntKind.u8 0, Value.int IntKind.u8 0, Value.int IntKind.u8 0, Value.int IntKind.u8 0] 25 (0, 0)) := heap_alloc_new _ _
  have G3 : Hid _ := g3
  clear g3
  go_wp2_with (refine wpList_store_row rfl 25 (.tmp 5) (.tmp 14) rfl w3.heap.size C.toArray rfl rfl 25 #[Value.int IntKind.u8 0, Value.int IntKind.u8 0, Value.int IntKind.u8 0, Value.int IntKind.u8 0, Value.int IntKind.u8 0, Value.int IntKind.u8 0, Value.int IntKind.u8 0, Value.int IntKind.u8 0, Value.int IntKind.u8 0, Value.int IntKind.u8 0, Value.int IntKind.u8 0, Value.int IntKind.u8 0, Value.int IntKind.u8 0, Value.int IntKind.u8 0, Value.int IntKind.u8 0, Value.int IntKind.u8 0, Value.int IntKind.u8 0, Value.int IntKind.u8 0, Value.int IntKind.u8 0, Value.int IntKind.u8 0] G3.out I25.out ZC.out oC ?_)
  obtain ⟨W4, hW4⟩ : ∃ W4, W4 = ((w3.alloc (Obj.cells #[Value.int IntKind.u8 0, Value.int IntKind.u8 0, Value.int IntKind.u8 0, Value.int IntKind.u8 0, Value.int IntKind.u8 0, Value.int IntKind.u8 0, Value.int IntKind.u8 0, Value.int IntKind.u8 0, Value.int IntKind.u8 0, Value.int IntKind.u8 0, Value.int IntKind.u8 0, Value.int IntKind.u8 0, Value.int IntKind.u8 0, Value.int IntKind.u8 0, Value.int IntKind.u8 0, Value.int IntKind.u8 0, Value.int IntKind.u8 0, Value.int IntKind.u8 0, Value.int IntKind.u8 0, Value.int IntKind.u8 0] 25)).setRow w3.heap.size C.toArray).alloc (Obj.cells #[Value.int IntKind.u8 0, Value.int IntKind.u8 0, Value.int IntKind.u8 0, Value.int IntKind.u8 0, Value.int IntKind.u8 0, Value.int IntKind.u8 0, Value.int IntKind.u8 0, Value.int IntKind.u8 0, Value.int IntKind.u8 0, Value.int IntKind.u8 0, Value.int IntKind.u8 0, Value.int IntKind.u8 0, Value.int IntKind.u8 0, Value.int IntKind.u8 0, Value.int IntKind.u8 0, Value.int IntKind.u8 0, Value.int IntKind.u8 0, Value.int IntKind.u8 0, Value.int IntKind.u8 0, Value.int IntKind.u8 0] 22) := ⟨_, rfl⟩
  rw [← hW4]
  have q0 : W4.heap[w3.heap.size]? = some (.cells C.toArray 25 (0, 0)) := by
    rw [hW4, Below.heap_alloc _ _ _ (by simp)]; exact store_box G3.out
  have q1 : W4.heap[w3.heap.size + 1]? = some (.cells (Lib.byteCells (wantI 0)).toArray 22 (0, 0)) := by
    rw [hW4]
    have := heap_alloc_new ((w3.alloc (Obj.cells #[Value.int IntKind.u8 0, Value.int IntKind.u8 0, Value.int IntKind.u8 0, Value.int IntKind.u8 0, Value.int IntKind.u8 0, Value.int IntKind.u8 0, Value.int IntKind.u8 0, Value.int IntKind.u8 0, Value.int IntKind.u8 0, Value.int IntKind.u8 0, Value.int IntKind.u8 0, Value.int IntKind.u8 0, Value.int IntKind.u8 0, Value.int IntKind.u8 0, Value.int IntKind.u8 0, Value.int IntKind.u8 0, Value.int IntKind.u8 0, Value.int IntKind.u8 0, Value.int IntKind.u8 0, Value.int IntKind.u8 0] 25)).setRow w3.heap.size C.toArray) (Obj.cells #[Value.int IntKind.u8 0, Value.int IntKind.u8 0, Value.int IntKind.u8 0, Value.int IntKind.u8 0, Value.int IntKind.u8 0, Value.int IntKind.u8 0, Value.int IntKind.u8 0, Value.int IntKind.u8 0, Value.int IntKind.u8 0, Value.int IntKind.u8 0, Value.int IntKind.u8 0, Value.int IntKind.u8 0, Value.int IntKind.u8 0, Value.int IntKind.u8 0, Value.int IntKind.u8 0, Value.int IntKind.u8 0, Value.int IntKind.u8 0, Value.int IntKind.u8 0, Value.int IntKind.u8 0, Value.int IntKind.u8 0] 22)
    rw [show (((w3.alloc (Obj.cells #[Value.int IntKind.u8 0, Value.int IntKind.u8 0, Value.int IntKind.u8 0, Value.int IntKind.u8 0, Value.int IntKind.u8 0, Value.int IntKind.u8 0, Value.int IntKind.u8 0, Value.int IntKind.u8 0, Value.int IntKind.u8 0, Value.int IntKind.u8 0, Value.int IntKind.u8 0, Value.int IntKind.u8 0, Value.int IntKind.u8 0, Value.int IntKind.u8 0, Value.int IntKind.u8 0, Value.int IntKind.u8 0, Value.int IntKind.u8 0, Value.int IntKind.u8 0, Value.int IntKind.u8 0, Value.int IntKind.u8 0] 25)).setRow w3.heap.size C.toArray)).heap.size = w3.heap.size + 1 by simp] at this
    exact this
  have q2 : Below w.heap.size w W4 := by
    rw [hW4]
    exact (below_setRow (k3.alloc k3.size _) k3.size _).alloc (by have := k3.size; simp; omega) _
  have Q0 : Hid _ := q0
  have Q1 : Hid _ := q1
  have hP := high_length a b
  have HP : Hid _ := hP
  have hsz := k3.size
  clear hW4 q0 q1 hP G3
  go_loopw [7] (fun vi wr => ∃ i : Nat, i ≤ 12 ∧ vi = .int .i64 i ∧ Hid (wr.heap[w3.heap.size + 1]? = some (.cells (Lib.byteCells (wantI i)).toArray 22 (0, 0))) ∧ Hid (wr.heap[w3.heap.size]? = some (.cells C.toArray 25 (0, 0))) ∧ Below w.heap.size w wr) (fun vi _ => 12 - (intOf vi).toNat)
  case atStart => exact ⟨0, by omega, rfl, Q1, Q0, q2⟩
  case round =>
    obtain ⟨i, hi, rfl, R1, R0, r2⟩ := hrel
    by_cases hi12 : i < 12
    · obtain ⟨u, hu⟩ : ∃ u, wr.cell? ⟨w3.heap.size + 1, i, none⟩ = some u := ⟨_, bytes_cell' R1.out i (by rw [wantI_length _ (by omega)]; omega)⟩
      have fz := free_of R1.out i
      go_wp2
      have c1 := heap_setCell_same wr (w3.heap.size + 1) i _ 22 (.int .u8 (255 : UInt8).toNat) R1.out
      rw [idC_set, wantI_set _ (by omega)] at c1
      have c0 := (Below.heap_setCell wr ⟨w3.heap.size + 1, i, none⟩ (.int .u8 (255 : UInt8).toNat) w3.heap.size (by show w3.heap.size ≠ w3.heap.size + 1; omega)).trans R0.out
      exact ⟨⟨i + 1, by omega, by go_num, c1, c0, r2.setCell (by show w.heap.size ≤ w3.heap.size + 1; omega) _⟩, by simp [intOf]; omega⟩
    · obtain rfl : i = 12 := by omega
      have p1 := R1.out
      rw [wantI_done a b hab, ← wantJ_zero (high a b) D] at p1
      have Q1 : Hid _ := p1
      have Q0 := R0
      have q2 := r2
      clear p1 R1
      go_wp2
      go_loopw [9] (fun vj wr => ∃ j : Nat, j ≤ 8 ∧ vj = .int .i64 j ∧ Hid (wr.heap[w3.heap.size + 1]? = some (.cells (Lib.byteCells (wantJ (high a b) D j)).toArray 22 (0, 0))) ∧ Hid (wr.heap[w3.heap.size]? = some (.cells C.toArray 25 (0, 0))) ∧ Below w.heap.size w wr) (fun vj _ => 8 - (intOf vj).toNat)
      case atStart => exact ⟨0, by omega, rfl, Q1, Q0, q2⟩
      case round =>
        obtain ⟨j, hj, rfl, R1, R0, r2⟩ := hrel
        by_cases hj8 : j < 8
        · obtain ⟨k, hk⟩ : ∃ k, k = 19 - j := ⟨_, rfl⟩
          have ek : (19 : Int) - (j : Int) = (k : Int) := by omega
          have hk20 : k < 20 := by omega
          obtain ⟨u, hu⟩ : ∃ u, wr.cell? ⟨w3.heap.size + 1, k, none⟩ = some u := ⟨_, bytes_cell' R1.out k (by rw [wantJ_length _ _ _ HP.out hj]; exact hk20)⟩
          have fz := free_of R1.out k
          have HK : Hid (k = 19 - j) := hk
          clear hk
          go_wp2
          have ev : ((D : Int) / 2 ^ (8 * j) % 256) = (((D / 256 ^ j % 256).toUInt8).toNat : Int) := val_eq D j
          have c1 := heap_setCell_same wr (w3.heap.size + 1) k _ 22 (.int .u8 ((D / 256 ^ j % 256).toUInt8).toNat) R1.out
          rw [idC_set, HK.out, wantJ_set _ _ _ HP.out hj8, ← HK.out] at c1
          have c0 := (Below.heap_setCell wr ⟨w3.heap.size + 1, k, none⟩ (.int .u8 ((D / 256 ^ j % 256).toUInt8).toNat) w3.heap.size (by show w3.heap.size ≠ w3.heap.size + 1; omega)).trans R0.out
          rw [ev]
          exact ⟨⟨j + 1, by omega, by go_num, c1, c0, r2.setCell (by show w.heap.size ≤ w3.heap.size + 1; omega) _⟩, by simp [intOf]; omega⟩
        · obtain rfl : j = 8 := by omega
          have p1 := R1.out
          rw [wantJ_full, HD.out, ← sub_bytes a b ha hb] at p1
          have P1 : Hid (wr.heap[w3.heap.size + 1]? = some (.cells C.toArray 22 (0, 0))) := by rw [HC.out]; exact p1
          clear p1 R1
          go_wp2_with (first
            | (refine wpList_load_row rfl 25 (.tmp 5) rfl w3.heap.size rfl 25 C.toArray (0, 0) _ R0.out Try.underlying25 rfl I25.out ?_)
            | (refine wpList_load_row rfl 22 (.tmp 6) rfl (w3.heap.size + 1) rfl 22 C.toArray (0, 0) _ P1.out Try.underlying22 rfl I22.out ?_))
          go_ret
          exact ⟨rfl, r2⟩
end Go.Proofs.Qxb6614219a
