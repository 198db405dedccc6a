/-
  WORDS ON SLICES AND THEIR FRAME; 'zzClone' by a contract.
-/
import Derived.Test.Qxb6605598aRows
import Derived.Test.Qxb6605598aShelf
import Derived.WalkKit
import Derived.WalkSpells
import Derived.WalkLawsBesides
import Derived.Laws.CopyOwn
import Derived.Laws.AppendOwnNone
import Derived.Lib.SliceRun
import Derived.Lib.VarintMem
import Derived.Deep.QuietTactic
import Derived.BigQuiet
namespace Go.Proofs.Qxb6605598a
open Go.RowKit

theorem info5 : (Try.prog.info? 5).map (fun i => (i.zero, i.size, i.bytes)) = some (some (.int .u8 0), 1, 1) := by kernel_rfl

/-- The numbers as cells. -/
def cel (xs : List Int) : List Value := xs.map (Value.int .u8)
theorem cel_length (xs : List Int) : (cel xs).length = xs.length := by simp [cel]
theorem cel_one (xs : List Int) : ∀ u ∈ cel xs, u.oneCell' = true := ints_oneCell .u8 xs

/-- A row whose slice fills it: the block itself. -/
theorem ownsRow_block {w : World} {B g n : Nat} {xs : List Value} (h : w.ownsRow B 5 1 (.slice (some ⟨g, 0, none⟩) n n) n xs) : w.heap[g]? = some (.cells xs.toArray 5 (0, 0)) := by
  obtain ⟨_, h | ⟨g', cap, cur, h1, _, h3, _, _, h6, h7⟩⟩ := h
  · simp at h
  · simp only [Value.slice.injEq, Option.some.injEq, Addr.mk.injEq, and_true, true_and] at h1
    obtain ⟨rfl, rfl⟩ := h1
    have : cur.toList = xs := by rw [← h7, List.take_of_length_le (by simpa using Nat.le_of_eq h6)]
    rw [h3, ← this]
theorem ownsRow_of_block {w : World} {B g n : Nat} {xs : List Value} (h : w.heap[g]? = some (.cells xs.toArray 5 (0, 0))) (hl : xs.length = n) (hB : B ≤ g) (hm : n ≤ maxLen) : w.ownsRow B 5 1 (.slice (some ⟨g, 0, none⟩) n n) n xs :=
  ⟨by simpa using hl, .inr ⟨g, n, xs.toArray, rfl, hB, h, Nat.le_refl _, hm, by simpa using hl, by simp [← hl]⟩⟩
theorem splice_whole {α : Type} (L cs : List α) (h : L.length = cs.length) : splice L 0 cs = cs := by
  simp [splice, ← h]

/-! ### WHAT STANDS BEHIND A CALL THAT MAKES MEMORY: all that was there is as it was. ('Below w.heap.size w w'' without its word on the tape.) -/
structure Kept (w w' : World) : Prop where
  os : w'.os = w.os
  output : w'.output = w.output
  size : w.heap.size ≤ w'.heap.size
  block : ∀ k, k < w.heap.size → w'.heap[k]? = w.heap[k]?

theorem Kept.refl (w : World) : Kept w w := ⟨rfl, rfl, Nat.le_refl _, fun _ _ => rfl⟩
theorem Kept.trans {a b c : World} (h : Kept a b) (k : Kept b c) : Kept a c :=
  ⟨k.os.trans h.os, k.output.trans h.output, Nat.le_trans h.size k.size, fun i hi => (k.block i (Nat.lt_of_lt_of_le hi h.size)).trans (h.block i hi)⟩
theorem Kept.of {w w' : World} (h : Below w.heap.size w w') : Kept w w' := ⟨h.os, h.output, h.size, h.block⟩
theorem Kept.drewN {w w' : World} (h : Kept w w') (n : Nat) : Kept w (w'.drewN n) := ⟨h.os, h.output, h.size, h.block⟩
theorem Kept.grown {w w1 w2 : World} {r : Option Nat} (h : Kept w w1) (k : w1.grownBy w2 r) (hr : ∀ b, r = some b → w.heap.size ≤ b) : Kept w w2 :=
  ⟨k.os.trans h.os, k.output.trans h.output, Nat.le_trans h.size k.size, fun b hb => by
    refine (k.block b (Nat.lt_of_lt_of_le hb h.size) ?_).trans (h.block b hb)
    intro e
    have := hr b e.symm
    omega⟩
/-- A frame that lets nothing turn: the blocks themselves are as they were. -/
theorem Kept.of_keptBut {w w' : World} {may : MemPlace → Prop} (h : w.keptBut w' may) (hm : ∀ p, ¬ may p) (hsz : w.heap.size ≤ w'.heap.size) : Kept w w' := by
  refine ⟨h.1, h.2.1, hsz, fun k hk => ?_⟩
  have h3 := h.2.2 k hk
  rw [Array.getElem?_eq_getElem hk] at h3 ⊢
  rw [Array.getElem?_eq_getElem (Nat.lt_of_lt_of_le hk hsz)] at h3 ⊢
  generalize w.heap[k] = o at h3
  generalize w'.heap[k]'(Nat.lt_of_lt_of_le hk hsz) = o' at h3
  cases o <;> cases o' <;> simp_all
  exact Array.ext_getElem? h3.2.2.2

/-- THE SLICE VALUE v FILLS A ROW OF ITS OWN with the numbers xs (or is nil). -/
def Full (w : World) (v : Value) (xs : List Int) : Prop :=
  (v = .slice none 0 0 ∧ xs = []) ∨ ∃ g, v = .slice (some ⟨g, 0, none⟩) xs.length xs.length ∧ w.heap[g]? = some (.cells (cel xs).toArray 5 (0, 0))

/-- The elements of the slice value v are, in the world w, the numbers xs. -/
def Slc (w : World) (v : Value) (xs : List Int) : Prop :=
  (v = .slice none 0 0 ∧ xs = []) ∨ ∃ x cap, v = .slice (some x) xs.length cap ∧ ∀ j, j < xs.length → w.cell? (x.add j) = some (.int .u8 (xs.getD j 0))

theorem cel_get (xs : List Int) (j : Nat) (h : j < xs.length) : (cel xs)[j]? = some (.int .u8 (xs.getD j 0)) := by
  simp [cel, List.getElem?_eq_getElem h]

theorem slc_of_owns {w : World} {B n : Nat} {v : Value} {xs : List Int} (h : w.ownsRow B 5 1 v n (cel xs)) : Slc w v xs := by
  have h0 := h
  obtain ⟨hl, ⟨rfl, rfl⟩ | ⟨g, cap, cur, rfl, _⟩⟩ := h
  · rw [cel_length] at hl
    exact .inl ⟨rfl, List.eq_nil_of_length_eq_zero (by simpa using hl)⟩
  · rw [cel_length, Nat.mul_one] at hl
    refine .inr ⟨⟨g, 0, none⟩, cap, by rw [hl], fun j hj => ?_⟩
    exact h0.cells (g := g) rfl j _ (cel_get xs j hj)

theorem Full.cell {w : World} {g : Nat} {xs : List Int} (h : w.heap[g]? = some (.cells (cel xs).toArray 5 (0, 0))) : ∀ j u, (cel xs)[j]? = some u → w.cell? ((⟨g, 0, none⟩ : Addr).add j) = some u := by
  intro j u hj
  rw [Addr.add_lit]
  simp [World.cell?, h]
  simpa using hj

theorem Full.slc {w : World} {v : Value} {xs : List Int} (h : Full w v xs) : Slc w v xs := by
  rcases h with h | ⟨g, rfl, hg⟩
  · exact .inl h
  · exact .inr ⟨_, _, rfl, fun j hj => Full.cell hg j _ (cel_get xs j hj)⟩

theorem Full.kept {w w' : World} {v : Value} {xs : List Int} (h : Full w v xs) (k : Kept w w') : Full w' v xs := by
  rcases h with h | ⟨g, rfl, hg⟩
  · exact .inl h
  · refine .inr ⟨g, rfl, ?_⟩
    rw [k.block g (by rcases Nat.lt_or_ge g w.heap.size with h | h; exact h; simp [Array.getElem?_eq_none h] at hg), hg]

theorem Slc.kept {w w' : World} {v : Value} {xs : List Int} (h : Slc w v xs) (k : Kept w w') : Slc w' v xs := by
  rcases h with h | ⟨x, cap, rfl, hc⟩
  · exact .inl h
  · refine .inr ⟨x, cap, rfl, fun j hj => ?_⟩
    have := hc j hj
    rw [World.cell?_of_block (w := w) (k.block _ (World.block_lt_of_cell? w _ this)), this]


/-! ### zzClone -/
set_option maxHeartbeats 400000 in
set_option maxRecDepth 100000 in
theorem clone_nil (w : World) : Calls Try.prog 8 #[.slice none 0 0] w fun e w' => e = .returned (.slice none 0 0) ∧ w' = w := by
  have hq := fun (wx : World) => Lib.run_eql_slice_nil (P := Try.prog) wx 22 5 none 0 0 0 0 Try.underlying22
  go_enter Try.func8, Try.ntmps8
  go_wp2
  go_ret
  exact ⟨rfl, rfl⟩

/-- The clone behind k rounds. -/
def half (xs : List Int) (k : Nat) : List Int := xs.take k ++ List.replicate (xs.length - k) 0
theorem half_length (xs : List Int) (k : Nat) (h : k ≤ xs.length) : (half xs k).length = xs.length := by simp [half]; omega
theorem half_zero (xs : List Int) : half xs 0 = List.replicate xs.length 0 := by simp [half]
theorem half_full (xs : List Int) : half xs xs.length = xs := by simp [half]
theorem half_set (xs : List Int) (k : Nat) (h : k < xs.length) : (half xs k).set k (xs.getD k 0) = half xs (k + 1) := by
  unfold half
  have e : xs.take (k + 1) = xs.take k ++ [xs[k]] := List.take_succ_eq_append_getElem h
  rw [show xs.length - k = (xs.length - (k + 1)) + 1 by omega, List.replicate_succ, List.set_append_right _ _ (by simp; omega)]
  simp [List.getD_eq_getElem?_getD, List.getElem?_eq_getElem h, Nat.min_eq_left (Nat.le_of_lt h)]
  rw [e, List.append_assoc, List.singleton_append]
theorem cel_set (xs : List Int) (k : Nat) (z : Int) : (cel xs).toArray.setIfInBounds k (.int .u8 z) = (cel (xs.set k z)).toArray := by simp [cel, List.map_set]

set_option maxHeartbeats 1000000 in
set_option maxRecDepth 100000 in
theorem clone_some (x : Addr) (n cap : Nat) (xs : List Int) (w : World) (hl : xs.length = n) (hn : n ≤ 1048576)
    (hc : ∀ j, j < n → w.cell? (x.add j) = some (.int .u8 (xs.getD j 0))) :
    Calls Try.prog 8 #[.slice (some x) n cap] w fun e w' => e = .returned (.slice (some ⟨w.heap.size, 0, none⟩) n n) ∧
      w'.heap[w.heap.size]? = some (.cells (cel xs).toArray 5 (0, 0)) ∧ Below w.heap.size w w' := by
  have hq := fun (wx : World) => Lib.run_eql_slice_nil (P := Try.prog) wx 22 5 (some x) n cap 0 0 Try.underlying22
  obtain ⟨i0, hi, hz0, hz1, hz2⟩ := info_parts info5
  go_enter Try.func8, Try.ntmps8
  go_wp2_with (first
    | (at_make; refine wpList_make_full _ rfl _ _ 22 rfl w.heap.size 5 i0 (.int .u8 0) 1 Try.underlying22 hi hz0 hz1 .i64 .i64 _ _ n rfl rfl rfl rfl (by rw [hz2]; omega) (by unfold maxLen; omega) (Nat.le_refl _) ?_; intro w1 hown1 hgrow1; have hg1 := ownsRow_block hown1; have hb1 : Below w.heap.size w w1 := (Below.refl _ _).grown hgrow1 (Nat.le_refl _) (fun k hk => by cases hk); clear hown1 hgrow1))
  have hg2 : w1.heap[w.heap.size]? = some (.cells (cel (half xs 0)).toArray 5 (0, 0)) := by
    rw [hg1, half_zero, hl]
    simp [Value.cells, cel, toList_madeCells_one]
  have G : Hid _ := hg2
  have HL : Hid (xs.length = n) := hl
  clear hg1 hg2 hl
  go_loopw [4] (fun vi wr => ∃ k : Nat, k ≤ n ∧ vi = .int .i64 k ∧ Hid (wr.heap[w.heap.size]? = some (.cells (cel (half xs k)).toArray 5 (0, 0))) ∧ Below w.heap.size w wr) (fun vi _ => n - (intOf vi).toNat)
  case atStart => exact ⟨0, Nat.zero_le _, rfl, G, hb1⟩
  case round =>
    obtain ⟨k, hk, rfl, R, r2⟩ := hrel
    by_cases hlt : k < n
    · have hcx := hc k hlt
      obtain ⟨b, o, spot⟩ := x
      have hspot : spot = none := by simpa [Addr.add] using World.cell?_spot (hc 0 (by omega))
      subst hspot
      rw [Addr.add_lit] at hcx
      have hbl := World.block_lt_of_cell? w _ hcx
      have c1 : wr.cell? ⟨b, o + k, none⟩ = some (.int .u8 (xs.getD k 0)) := (r2.cell (p := ⟨b, o + k, none⟩) hbl).trans hcx
      obtain ⟨z, hz⟩ : ∃ z, z = xs.getD k 0 := ⟨_, rfl⟩
      rw [← hz] at c1
      have HZ : Hid (z = xs.getD k 0) := hz
      clear hz hcx hc
      have c2 : wr.cell? ⟨w.heap.size, k, none⟩ = some (.int .u8 ((half xs k).getD k 0)) := by
        have hj : k < (half xs k).length := by rw [half_length _ _ (by rw [HL.out]; exact hk), HL.out]; exact hlt
        have := Full.cell R.out k _ (cel_get _ k hj)
        rwa [Addr.add_lit, Nat.zero_add] at this
      obtain ⟨u, hu⟩ : ∃ u, wr.cell? ⟨w.heap.size, k, none⟩ = some u := ⟨_, c2⟩
      have fz : wr.frozen? ⟨w.heap.size, k, none⟩ = false := by simp [World.frozen?, R.out]
      clear c2
      go_wp2
      have d1 := heap_setCell_same wr w.heap.size k _ 5 (.int .u8 z) R.out
      rw [cel_set, HZ.out, half_set xs k (by rw [HL.out]; exact hlt), ← HZ.out] at d1
      go_roundw
      case rel => exact ⟨k + 1, by omega, by go_num, d1, r2.setCell (Nat.le_refl _) _⟩
      case measure => simp [intOf]; omega
    · obtain rfl : k = n := by omega
      have d1 := R.out
      rw [← HL.out, half_full] at d1
      go_wp2
      go_ret
      exact ⟨rfl, d1, r2⟩

theorem clone_any (v : Value) (xs : List Int) (w : World) (h : Slc w v xs) (hn : xs.length ≤ 1048576) :
    Calls Try.prog 8 #[v] w fun e w' => ∃ ao, e = .returned (.slice ao xs.length xs.length) ∧ Full w' (.slice ao xs.length xs.length) xs ∧ Kept w w' := by
  rcases h with ⟨rfl, rfl⟩ | ⟨x, cap, rfl, hc⟩
  · exact (clone_nil w).mono fun e w' ⟨he, hw⟩ => ⟨none, he, .inl ⟨rfl, rfl⟩, by rw [hw]; exact Kept.refl _⟩
  · exact (clone_some x xs.length cap xs w rfl hn hc).mono fun e w' ⟨he, h1, h2⟩ => ⟨_, he, .inr ⟨_, rfl, h1⟩, .of h2⟩
end Go.Proofs.Qxb6605598a
