/-
  'zzChainVerdict', over whatever verdict the rule gives.
-/
import Derived.Test.Qxb6605627aRows
import Derived.WalkKit
import Derived.WalkSpells
import Derived.WalkLawsBesides
import Derived.Laws.Pointers
namespace Go.Proofs.Qxb6605627a
open Go.RowKit
set_option linter.unusedVariables false

theorem lt_of_some {w : World} {g : Nat} {o : Obj} (h : w.heap[g]? = some o) : g < w.heap.size := by
  rcases Nat.lt_or_ge g w.heap.size with hg | hg
  · exact hg
  · simp [Array.getElem?_eq_none hg] at h

set_option maxHeartbeats 1000000 in
set_option maxRecDepth 100000 in
theorem chainv_any (b : Bool) (R : Array Value) (hk r : Nat) (fam proto dport : Int) (inP : Bool) (w : World) (hR : (Try.prog.info? 58).map (·.size) = some R.size)
    (hh : w.heap[hk]? = some (.cells #[.int .i64 2, .int .i32 0] 37 (0, 0))) (hr : w.heap[r]? = some (.cells R 58 (0, 0)))
    (hv : ∀ wx, Calls Try.prog 14 #[.agg R, .int .i64 fam, .int .u8 proto, .int .u16 dport, .bool inP] wx fun e w' => e = .returned (.tuple #[.bool b, .int .i64 2]) ∧ Below wx.heap.size wx w') :
    Calls Try.prog 12 #[.agg #[.pointer (some ⟨hk, 0, none⟩), .slice (some ⟨r, 0, none⟩) 1 1], .int .i64 fam, .int .u8 proto, .int .u16 dport, .bool inP] w fun e w' => e = .returned (.int .i64 (if b then 2 else 1)) ∧ Below w.heap.size w w' := by
  obtain ⟨W0, hW0⟩ : ∃ W0, W0 = w.alloc (Obj.cells #[.pointer (some ⟨hk, 0, none⟩), .slice (some ⟨r, 0, none⟩) 1 1] 33) := ⟨_, rfl⟩
  have lh := lt_of_some hh
  have lr := lt_of_some hr
  have c0 : w.cell? ⟨hk, 0, none⟩ = some (.int .i64 2) := by simp [World.cell?, hh]
  have bw : Below w.heap.size w W0 := by rw [hW0]; exact (Below.refl _ _).alloc (Nat.le_refl _) _
  have r0 : W0.heap[r]? = some (.cells R 58 (0, 0)) := (bw.block r lr).trans hr
  rw [hW0] at r0
  have nh : hk ≠ w.heap.size := by omega
  have R0 : Hid _ := r0
  have HR : Hid _ := hR
  have HV : Hid _ := hv
  have HW : Hid (W0 = w.alloc (Obj.cells #[.pointer (some ⟨hk, 0, none⟩), .slice (some ⟨r, 0, none⟩) 1 1] 33)) := hW0
  have k9 : Hid (∀ wx, Below (w.alloc (Obj.cells #[.pointer (some ⟨hk, 0, none⟩), .slice (some ⟨r, 0, none⟩) 1 1] 33)).heap.size (w.alloc (Obj.cells #[.pointer (some ⟨hk, 0, none⟩), .slice (some ⟨r, 0, none⟩) 1 1] 33)) wx → wx.cell? ⟨w.heap.size, 1, none⟩ = some (.slice (some ⟨r, 0, none⟩) 1 1) ∧ Below w.heap.size w wx) := fun wx h => by
    rw [← hW0] at h
    have e : W0.heap[w.heap.size]? = some (.cells #[.pointer (some ⟨hk, 0, none⟩), .slice (some ⟨r, 0, none⟩) 1 1] 33 (0, 0)) := by rw [hW0]; exact heap_alloc_new w _
    have e2 := (h.block _ (lt_of_some e)).trans e
    exact ⟨by simp [World.cell?, e2], bw.trans (h.mono bw.size)⟩
  clear r0 hR hv hW0 hh hr
  cases b
  · go_enter Try.func12, Try.ntmps12
    go_wp2
    refine wp_loop_rounds 2 ?_
    rw [rounds_succ]
    go_wp2_with (first
      | (refine wpList_load_row rfl 58 (.tmp 36) rfl r rfl 58 R (0, 0) _ R0.out Try.underlying58 rfl HR.out ?_)
      | (go_at_call 14; refine (HV.out _).mono ?_; rintro e w1 ⟨rfl, b1⟩; obtain ⟨c9, b9⟩ := k9.out _ b1))
    rw [rounds_succ]
    go_wp2
    go_ret
    exact ⟨rfl, b9⟩
  · go_enter Try.func12, Try.ntmps12
    go_wp2
    refine wp_loop_rounds 1 ?_
    rw [rounds_succ]
    go_wp2_with (first
      | (refine wpList_load_row rfl 58 (.tmp 36) rfl r rfl 58 R (0, 0) _ R0.out Try.underlying58 rfl HR.out ?_)
      | (go_at_call 14; refine (HV.out _).mono ?_; rintro e w1 ⟨rfl, b1⟩; obtain ⟨c9, b9⟩ := k9.out _ b1))
    go_ret
    exact ⟨rfl, b9⟩
end Go.Proofs.Qxb6605627a
