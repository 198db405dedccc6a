/-
  'ZZsubID', 'shiftedID' at shift 0, 'IDFromUint64'.
-/
import Derived.Test.Qxb6614219aSub
namespace Go.Proofs.Qxb6614219a
open Go.RowKit
set_option linter.unusedVariables false
set_option linter.unusedSimpArgs false

set_option maxHeartbeats 1000000 in
set_option maxRecDepth 100000 in
theorem shifted_any (v : Nat) (hv : v < 18446744073709551616) (w : World) :
    Calls Try.prog 28 #[.int .u64 v, .int .i64 0] w fun e w' => e = .returned (.agg (idC v).toArray) ∧ Below w.heap.size w w' := by
  obtain ⟨W0, hW0⟩ : ∃ W0, W0 = w.alloc (Obj.cells #[Value.int IntKind.u8 0, Value.int IntKind.u8 0, Value.int IntKind.u8 0, Value.int IntKind.u8 0, Value.int IntKind.u8 0, Value.int IntKind.u8 0, Value.int IntKind.u8 0, Value.int IntKind.u8 0, Value.int IntKind.u8 0, Value.int IntKind.u8 0, Value.int IntKind.u8 0, Value.int IntKind.u8 0, Value.int IntKind.u8 0, Value.int IntKind.u8 0, Value.int IntKind.u8 0, Value.int IntKind.u8 0, Value.int IntKind.u8 0, Value.int IntKind.u8 0, Value.int IntKind.u8 0, Value.int IntKind.u8 0] 25) := ⟨_, rfl⟩
  have bw : Below w.heap.size w W0 := by rw [hW0]; exact (Below.refl _ _).alloc (Nat.le_refl _) _
  have g0 : W0.heap[w.heap.size]? = some (.cells #[Value.int IntKind.u8 0, Value.int IntKind.u8 0, Value.int IntKind.u8 0, Value.int IntKind.u8 0, Value.int IntKind.u8 0, Value.int IntKind.u8 0, Value.int IntKind.u8 0, Value.int IntKind.u8 0, Value.int IntKind.u8 0, Value.int IntKind.u8 0, Value.int IntKind.u8 0, Value.int IntKind.u8 0, Value.int IntKind.u8 0, Value.int IntKind.u8 0, Value.int IntKind.u8 0, Value.int IntKind.u8 0, Value.int IntKind.u8 0, Value.int IntKind.u8 0, Value.int IntKind.u8 0, Value.int IntKind.u8 0] 25 (0, 0)) := by rw [hW0]; exact heap_alloc_new w _
  have HW : Hid (W0 = w.alloc (Obj.cells #[Value.int IntKind.u8 0, Value.int IntKind.u8 0, Value.int IntKind.u8 0, Value.int IntKind.u8 0, Value.int IntKind.u8 0, Value.int IntKind.u8 0, Value.int IntKind.u8 0, Value.int IntKind.u8 0, Value.int IntKind.u8 0, Value.int IntKind.u8 0, Value.int IntKind.u8 0, Value.int IntKind.u8 0, Value.int IntKind.u8 0, Value.int IntKind.u8 0, Value.int IntKind.u8 0, Value.int IntKind.u8 0, Value.int IntKind.u8 0, Value.int IntKind.u8 0, Value.int IntKind.u8 0, Value.int IntKind.u8 0] 25)) := hW0
  have G0 : Hid _ := g0
  clear hW0 g0
  have b0 : Below W0.heap.size W0 W0.drew := (Below.refl _ W0).drew
  have lv := idC_length v
  have ov := idC_one v
  have iv := info25 v
  obtain ⟨C, hC⟩ : ∃ C, C = idC v := ⟨_, rfl⟩
  rw [← hC] at lv ov iv
  have HC : Hid (C = idC v) := hC
  clear hC
  have KS : Hid (∀ w', Below W0.heap.size W0 w' → w'.there w.heap.size 0 20) := fun w' h => there_of ((h.block _ (lt_of_some G0.out)).trans G0.out) 20 (Nat.le_refl _)
  have s0 := KS.out _ b0
  have hid := id_num 0 0 v (by omega) (by omega) hv
  rw [show (0 * 340282366920938463463374607431768211456 + 0 * 18446744073709551616 + v) = v by omega, ← HC.out] at hid
  have HI : Hid _ := hid
  clear hid
  have hw128 : IntKind.i64.wrap 128 = 128 := by decide
  have hw64 : IntKind.i64.wrap 64 = 64 := by decide
  have hwv : IntKind.u64.wrap (v : Int) = v := by simp only [IntKind.wrap_u64]; omega
  have hv0 : (v : Int) / 2 ^ 64 = 0 := by have : ((2 : Int) ^ 64) = 18446744073709551616 := by decide
                                          rw [this]; omega
  have hs128 : Op.shift .shr .u64 (v : Int) .i64 128 = pure (.int .u64 0) := by
    rw [shift_shr_any _ _ _ _ (by decide)]
    show pure (Value.int .u64 ((v : Int) / 2 ^ 64)) = _
    rw [hv0]
  have hs64 : Op.shift .shr .u64 (v : Int) .i64 64 = pure (.int .u64 0) := by
    rw [shift_shr_any _ _ _ _ (by decide)]
    show pure (Value.int .u64 ((v : Int) / 2 ^ 64)) = _
    rw [hv0]
  clear hv0
  go_enter Try.func28, Try.ntmps28
  go_wp2
  rw [← HW.out]
  go_region_held3 (fun w' => w'.there w.heap.size 0 20) (first | exact s0 | exact s1 | exact World.there_setCells s1 _ _ _) ((go_at_call 38; refine (HI.out _).mono ?_; rintro e w1 ⟨rfl, hb⟩; have b1 : Below W0.heap.size W0 w1 := b0.trans (hb.mono b0.size); clear hb; have s1 := KS.out _ b1))
  have g4 : w1.heap[w.heap.size]? = some (.cells #[Value.int IntKind.u8 0, Value.int IntKind.u8 0, Value.int IntKind.u8 0, Value.int IntKind.u8 0, Value.int IntKind.u8 0, Value.int IntKind.u8 0, Value.int IntKind.u8 0, Value.int IntKind.u8 0, Value.int IntKind.u8 0, Value.int IntKind.u8 0, Value.int IntKind.u8 0, Value.int IntKind.u8 0, Value.int IntKind.u8 0, Value.int IntKind.u8 0, Value.int IntKind.u8 0, Value.int IntKind.u8 0, Value.int IntKind.u8 0, Value.int IntKind.u8 0, Value.int IntKind.u8 0, Value.int IntKind.u8 0] 25 (0, 0)) := (b1.block _ (lt_of_some G0.out)).trans G0.out
  have g5 := heap_setCells_same w.heap.size 25 C [] (#[Value.int IntKind.u8 0, Value.int IntKind.u8 0, Value.int IntKind.u8 0, Value.int IntKind.u8 0, Value.int IntKind.u8 0, Value.int IntKind.u8 0, Value.int IntKind.u8 0, Value.int IntKind.u8 0, Value.int IntKind.u8 0, Value.int IntKind.u8 0, Value.int IntKind.u8 0, Value.int IntKind.u8 0, Value.int IntKind.u8 0, Value.int IntKind.u8 0, Value.int IntKind.u8 0, Value.int IntKind.u8 0, Value.int IntKind.u8 0, Value.int IntKind.u8 0, Value.int IntKind.u8 0, Value.int IntKind.u8 0]).toList [] w1 (by simpa using g4) (by rw [lv]; rfl)
  rw [List.nil_append, List.append_nil, List.length_nil] at g5
  have bb : Below w.heap.size w (w1.setCells w.heap.size 0 C) := (bw.trans (b1.mono bw.size)).trans (Lib.below_setCells_w (by omega) _ _ _)
  have G5 : Hid _ := g5
  clear g4 g5
  generalize w1.setCells w.heap.size 0 C = w5 at *
  go_wp2
  refine bodyPost_ret (v := .agg C.toArray) ?_ rfl ⟨by rw [HC.out], bb⟩
  exact results_cell_row Try.results28 _ _ w.heap.size 25 _ (0, 0) _ rfl G5.out Try.underlying25 rfl (by rw [List.size_toArray]; exact iv)

/-- A whole identifier stored into a result's box that is known whole. -/
theorem store_box {w : World} {g : Nat} {Z C : Array Value} (h : w.heap[g]? = some (.cells Z 25 (0, 0))) : (w.setRow g C).heap[g]? = some (.cells C 25 (0, 0)) := setRow_heap _ _ _ _ _ _ h

set_option maxHeartbeats 1000000 in
set_option maxRecDepth 100000 in
theorem from_any (v : Nat) (hv : v < 18446744073709551616) (w : World) :
    Calls Try.prog 11 #[.int .u64 v] w fun e w' => e = .returned (.agg (idC v).toArray) ∧ Below w.heap.size w w' := by
  obtain ⟨W0, hW0⟩ : ∃ W0, W0 = w.alloc (Obj.cells #[Value.int IntKind.u8 0, Value.int IntKind.u8 0, Value.int IntKind.u8 0, Value.int IntKind.u8 0, Value.int IntKind.u8 0, Value.int IntKind.u8 0, Value.int IntKind.u8 0, Value.int IntKind.u8 0, Value.int IntKind.u8 0, Value.int IntKind.u8 0, Value.int IntKind.u8 0, Value.int IntKind.u8 0, Value.int IntKind.u8 0, Value.int IntKind.u8 0, Value.int IntKind.u8 0, Value.int IntKind.u8 0, Value.int IntKind.u8 0, Value.int IntKind.u8 0, Value.int IntKind.u8 0, Value.int IntKind.u8 0] 25) := ⟨_, rfl⟩
  have bw : Below w.heap.size w W0 := by rw [hW0]; exact (Below.refl _ _).alloc (Nat.le_refl _) _
  have g0 : W0.heap[w.heap.size]? = some (.cells #[Value.int IntKind.u8 0, Value.int IntKind.u8 0, Value.int IntKind.u8 0, Value.int IntKind.u8 0, Value.int IntKind.u8 0, Value.int IntKind.u8 0, Value.int IntKind.u8 0, Value.int IntKind.u8 0, Value.int IntKind.u8 0, Value.int IntKind.u8 0, Value.int IntKind.u8 0, Value.int IntKind.u8 0, Value.int IntKind.u8 0, Value.int IntKind.u8 0, Value.int IntKind.u8 0, Value.int IntKind.u8 0, Value.int IntKind.u8 0, Value.int IntKind.u8 0, Value.int IntKind.u8 0, Value.int IntKind.u8 0] 25 (0, 0)) := by rw [hW0]; exact heap_alloc_new w _
  have HW : Hid (W0 = w.alloc (Obj.cells #[Value.int IntKind.u8 0, Value.int IntKind.u8 0, Value.int IntKind.u8 0, Value.int IntKind.u8 0, Value.int IntKind.u8 0, Value.int IntKind.u8 0, Value.int IntKind.u8 0, Value.int IntKind.u8 0, Value.int IntKind.u8 0, Value.int IntKind.u8 0, Value.int IntKind.u8 0, Value.int IntKind.u8 0, Value.int IntKind.u8 0, Value.int IntKind.u8 0, Value.int IntKind.u8 0, Value.int IntKind.u8 0, Value.int IntKind.u8 0, Value.int IntKind.u8 0, Value.int IntKind.u8 0, Value.int IntKind.u8 0] 25)) := hW0
  have G0 : Hid _ := g0
  clear hW0 g0
  go_enter Try.func11, Try.ntmps11
  go_wp2_with fail
  rw [← HW.out]
  refine (shifted_any v hv _).mono ?_
  rintro e w1 ⟨rfl, hb⟩
  have p1 : w1.heap[w.heap.size]? = _ := (hb.block _ (lt_of_some G0.out)).trans G0.out
  have P1 : Hid _ := p1
  clear p1
  go_wp2_with (refine wpList_store_row rfl 25 (.tmp 2) (.tmp 4) rfl w.heap.size (idC v).toArray rfl rfl 25 _ P1.out (infoC v) (by rw [sizeC]; rfl) (all_oneCell_toArray (idC_one v)) ?_)
  refine bodyPost_ret (v := .agg (idC v).toArray) ?_ rfl ⟨rfl, below_setRow (bw.trans (hb.mono bw.size)) (Nat.le_refl _) _⟩
  exact results_cell_row Try.results11 _ _ w.heap.size 25 _ (0, 0) _ rfl (store_box P1.out) Try.underlying25 rfl (infoC v)

set_option maxHeartbeats 1000000 in
set_option maxRecDepth 100000 in
theorem zzsub_any (A B : Nat) (hA : A < 1461501637330902918203684832716283019655932542976) (hB : B < 1461501637330902918203684832716283019655932542976) (w : World) :
    Calls Try.prog 10 #[.agg (idC A).toArray, .agg (idC B).toArray] w fun e w' => e = .returned (.agg (idC (subN A B)).toArray) ∧ Below w.heap.size w w' := by
  obtain ⟨CA, hCA⟩ : ∃ CA, CA = (idC A).toArray := ⟨_, rfl⟩
  obtain ⟨CB, hCB⟩ : ∃ CB, CB = (idC B).toArray := ⟨_, rfl⟩
  have iA := infoC A
  have iB := infoC B
  rw [← hCA] at iA
  rw [← hCB] at iB
  have HA : Hid (CA = (idC A).toArray) := hCA
  have HB : Hid (CB = (idC B).toArray) := hCB
  rw [← hCA, ← hCB]
  clear hCA hCB
  obtain ⟨W0, hW0⟩ : ∃ W0, W0 = (((w.alloc (Obj.cells CA 25)).alloc (Obj.cells CB 25)).alloc (Obj.cells #[Value.int IntKind.u8 0, Value.int IntKind.u8 0, Value.int IntKind.u8 0, Value.int IntKind.u8 0, Value.int IntKind.u8 0, Value.int IntKind.u8 0, Value.int IntKind.u8 0, Value.int IntKind.u8 0, Value.int IntKind.u8 0, Value.int IntKind.u8 0, Value.int IntKind.u8 0, Value.int IntKind.u8 0, Value.int IntKind.u8 0, Value.int IntKind.u8 0, Value.int IntKind.u8 0, Value.int IntKind.u8 0, Value.int IntKind.u8 0, Value.int IntKind.u8 0, Value.int IntKind.u8 0, Value.int IntKind.u8 0] 25)) := ⟨_, rfl⟩
  have bw : Below w.heap.size w W0 := by rw [hW0]; exact (((Below.refl _ _).alloc (Nat.le_refl _) _).alloc (by simp) _).alloc (by simp; omega) _
  have g0 : W0.heap[w.heap.size]? = some (.cells CA 25 (0, 0)) := by
    rw [hW0, Below.heap_alloc _ _ _ (by simp; omega), Below.heap_alloc _ _ _ (by simp)]; exact heap_alloc_new w _
  have g1 : W0.heap[w.heap.size + 1]? = some (.cells CB 25 (0, 0)) := by
    rw [hW0, Below.heap_alloc _ _ _ (by simp)]
    have := heap_alloc_new (w.alloc (Obj.cells CA 25)) (Obj.cells CB 25)
    simpa using this
  have g2 : W0.heap[w.heap.size + 1 + 1]? = some (.cells #[Value.int IntKind.u8 0, Value.int IntKind.u8 0, Value.int IntKind.u8 0, Value.int IntKind.u8 0, Value.int IntKind.u8 0, Value.int IntKind.u8 0, Value.int IntKind.u8 0, Value.int IntKind.u8 0, Value.int IntKind.u8 0, Value.int IntKind.u8 0, Value.int IntKind.u8 0, Value.int IntKind.u8 0, Value.int IntKind.u8 0, Value.int IntKind.u8 0, Value.int IntKind.u8 0, Value.int IntKind.u8 0, Value.int IntKind.u8 0, Value.int IntKind.u8 0, Value.int IntKind.u8 0, Value.int IntKind.u8 0] 25 (0, 0)) := by
    rw [hW0]
    have := heap_alloc_new ((w.alloc (Obj.cells CA 25)).alloc (Obj.cells CB 25)) (Obj.cells #[Value.int IntKind.u8 0, Value.int IntKind.u8 0, Value.int IntKind.u8 0, Value.int IntKind.u8 0, Value.int IntKind.u8 0, Value.int IntKind.u8 0, Value.int IntKind.u8 0, Value.int IntKind.u8 0, Value.int IntKind.u8 0, Value.int IntKind.u8 0, Value.int IntKind.u8 0, Value.int IntKind.u8 0, Value.int IntKind.u8 0, Value.int IntKind.u8 0, Value.int IntKind.u8 0, Value.int IntKind.u8 0, Value.int IntKind.u8 0, Value.int IntKind.u8 0, Value.int IntKind.u8 0, Value.int IntKind.u8 0] 25)
    simpa using this
  have HW : Hid (W0 = (((w.alloc (Obj.cells CA 25)).alloc (Obj.cells CB 25)).alloc (Obj.cells #[Value.int IntKind.u8 0, Value.int IntKind.u8 0, Value.int IntKind.u8 0, Value.int IntKind.u8 0, Value.int IntKind.u8 0, Value.int IntKind.u8 0, Value.int IntKind.u8 0, Value.int IntKind.u8 0, Value.int IntKind.u8 0, Value.int IntKind.u8 0, Value.int IntKind.u8 0, Value.int IntKind.u8 0, Value.int IntKind.u8 0, Value.int IntKind.u8 0, Value.int IntKind.u8 0, Value.int IntKind.u8 0, Value.int IntKind.u8 0, Value.int IntKind.u8 0, Value.int IntKind.u8 0, Value.int IntKind.u8 0] 25))) := hW0
  have G0 : Hid _ := g0
  have G1 : Hid _ := g1
  have G2 : Hid _ := g2
  have HIA : Hid _ := iA
  have HIB : Hid _ := iB
  clear hW0 g0 g1 g2 iA iB
  go_enter Try.func10, Try.ntmps10
  go_wp2_with (first
    | (refine wpList_load_row rfl 25 (.tmp 2) rfl w.heap.size rfl 25 CA (0, 0) _ (by rw [← HW.out]; exact G0.out) Try.underlying25 rfl HIA.out ?_)
    | (refine wpList_load_row rfl 25 (.tmp 3) rfl (w.heap.size + 1) rfl 25 CB (0, 0) _ (by rw [← HW.out]; exact G1.out) Try.underlying25 rfl HIB.out ?_))
  rw [HA.out, HB.out]
  refine (sub_any A B hA hB _).mono ?_
  rintro e w1 ⟨rfl, hb⟩
  rw [← HA.out, ← HB.out, ← HW.out] at hb
  have p1 : w1.heap[w.heap.size + 1 + 1]? = _ := (hb.block _ (lt_of_some G2.out)).trans G2.out
  have P1 : Hid _ := p1
  clear p1
  go_wp2_with (refine wpList_store_row rfl 25 (.tmp 4) (.tmp 7) rfl (w.heap.size + 1 + 1) (idC (subN A B)).toArray rfl rfl 25 _ P1.out (infoC _) (by rw [sizeC]; rfl) (all_oneCell_toArray (idC_one _)) ?_)
  refine bodyPost_ret (v := .agg (idC (subN A B)).toArray) ?_ rfl ⟨rfl, below_setRow (bw.trans (hb.mono bw.size)) (by omega) _⟩
  exact results_cell_row Try.results10 _ _ (w.heap.size + 1 + 1) 25 _ (0, 0) _ rfl (store_box P1.out) Try.underlying25 rfl (infoC _)
end Go.Proofs.Qxb6614219a
