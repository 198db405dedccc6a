/-
  appendField, ZZappendField, zzUvarintLen, zzSameAt, zzBytes: a contract each.
-/
import Derived.Test.Qxb6614219aClone
namespace Go.Proofs.Qxb6614219a
open Go.RowKit

/-- The varint's bytes as numbers. -/
def uvz (n : Nat) : List Int := (Lib.uvarint n).map fun b => (b.toNat : Int)
theorem cel_uvz (n : Nat) : cel (uvz n) = Lib.byteCells (Lib.uvarint n) := by simp [cel, uvz, Lib.byteCells]
theorem uvz_length (n : Nat) : (uvz n).length = (Lib.uvarint n).length := by simp [uvz]
theorem cel_append (xs ys : List Int) : cel (xs ++ ys) = cel xs ++ cel ys := by simp [cel]

theorem Full.came {w : World} {v : Value} {xs : List Int} (h : Full w v xs) : ∃ ao b, v = .slice ao xs.length xs.length ∧ Came w 1 ao b 0 xs.length xs.length (cel xs) := by
  rcases h with ⟨rfl, rfl⟩ | ⟨g, rfl, hg⟩
  · exact ⟨none, 0, rfl, ⟨Nat.le_refl _, fun h => by simp at h, fun h => by simp at h, rfl, fun j u h => by simp [cel] at h, fun j h => by simp at h⟩⟩
  · refine ⟨_, g, rfl, ⟨Nat.le_refl _, fun _ => rfl, fun _ => ?_, by simp [cel_length], fun j u h => ?_, fun j h => by simp at h⟩⟩
    · rcases Nat.lt_or_ge g w.heap.size with h | h
      · exact h
      · simp [Array.getElem?_eq_none h] at hg
    · have := Full.cell hg j u h
      rwa [Addr.add_lit] at this

set_option maxHeartbeats 400000 in
set_option maxRecDepth 100000 in
theorem field_any (bv fv : Value) (bs fs : List Int) (w : World) (hb : Full w bv bs) (hf : Full w fv fs) (h1 : bs.length ≤ 1048576) (h2 : fs.length ≤ 1048576) :
    Calls Try.prog 35 #[bv, fv] w fun e w' => ∃ v', e = .returned v' ∧ w'.ownsRow w.heap.size 5 1 v' (bs.length + (uvz fs.length).length + fs.length) (cel (bs ++ uvz fs.length ++ fs)) ∧ Kept w w' := by
  obtain ⟨i0, hi, hz0, hz1, hz2⟩ := info_parts info5
  obtain ⟨ao, b, rfl, hc⟩ := hb.came
  have hul := Lib.uvarint_length64 (x := fs.length) (by omega)
  have hup := Lib.uvarint_pos fs.length
  have key : ∀ v1 w1, Onto w 5 1 ao b 0 bs.length bs.length (cel bs) w1 v1 (0 + (Lib.uvarint fs.length).length) ([] ++ Lib.byteCells (Lib.uvarint fs.length)) →
      w1.ownsRow w.heap.size 5 1 v1 (bs.length + (uvz fs.length).length) (cel (bs ++ uvz fs.length)) ∧ Kept w w1 := by
    intro v1 w1 ho
    have hk : Kept w w1 := Kept.of_keptBut ho.kept (fun p ⟨j, _, h, _⟩ => by simp at h) ho.kept.size
    rcases ho.val with ⟨hle, _⟩ | ⟨_, hown⟩
    · omega
    · refine ⟨?_, hk⟩
      rw [cel_append, cel_uvz, uvz_length]
      simpa using hown
  rcases hf with ⟨rfl, rfl⟩ | ⟨g, rfl, hg⟩
  · go_enter Try.func35, Try.ntmps35
    go_wp2_with (first
      | (go_at_call 43; refine (Try.binary_AppendUvarint_arg w ao b 0 bs.length bs.length (cel bs) hc _ (by simp) _ 0 [] _ (Onto.start hc) (by omega)).mono ?_; rintro e w1 ⟨v1, rfl, ho⟩; obtain ⟨hown, hk⟩ := key v1 w1 ho; clear ho)
      | (at_builtin; refine wpList_append_own_none rfl (.tmp 10) (.tmp 11) 43 rfl w.heap.size 5 i0 1 Try.underlying43 hi v1 _ _ rfl hown rfl ?_))
    go_ret
    exact ⟨v1, rfl, by simpa using hown, hk⟩
  · have hlen : (fs.length : Int) ≤ 1048576 := by omega
    go_enter Try.func35, Try.ntmps35
    go_wp2_with (first
      | (go_at_call 43; refine (Try.binary_AppendUvarint_arg w ao b 0 bs.length bs.length (cel bs) hc fs.length (by omega) _ 0 [] _ (Onto.start hc) (by omega)).mono ?_; rintro e w1 ⟨v1, rfl, ho⟩; obtain ⟨hown, hk⟩ := key v1 w1 ho; clear ho; have hg1 := (hk.block g (by rcases Nat.lt_or_ge g w.heap.size with h | h; exact h; simp [Array.getElem?_eq_none h] at hg)).trans hg)
      | (at_builtin; refine wpList_append_own _ rfl (.tmp 10) (.tmp 11) 43 rfl w.heap.size 5 i0 (.int .u8 0) 1 1 Try.underlying43 hi hz0 hz1 hz2 rfl (by decide) v1 _ _ rfl hown ⟨g, 0, none⟩ fs.length fs.length (cel fs) rfl (by simp [cel_length]) (Full.cell hg1) (cel_one fs) (by unfold maxLen; rw [uvz_length]; omega) (by rw [uvz_length]; omega) hk.size ?_; intro v2 w2 hown2 hgrow2 _))
    go_ret
    refine ⟨v2, rfl, ?_, hk.grown hgrow2 fun k hk' => (hown.lt k hk').1⟩
    rw [cel_append]
    exact hown2

set_option maxRecDepth 100000 in
theorem zzfield_any (bv fv : Value) (bs fs : List Int) (w : World) (hb : Full w bv bs) (hf : Full w fv fs) (h1 : bs.length ≤ 1048576) (h2 : fs.length ≤ 1048576) :
    Calls Try.prog 24 #[bv, fv] w fun e w' => ∃ v', e = .returned v' ∧ w'.ownsRow w.heap.size 5 1 v' (bs.length + (uvz fs.length).length + fs.length) (cel (bs ++ uvz fs.length ++ fs)) ∧ Kept w w' := by
  go_enter Try.func24, Try.ntmps24
  go_wp2_with (go_at_call 35; refine (field_any bv fv bs fs _ hb hf h1 h2).mono ?_; rintro e w1 ⟨v1, rfl, ho, hk⟩)
  go_ret
  exact ⟨v1, rfl, ho, hk⟩

/-! ### zzUvarintLen -/
set_option maxHeartbeats 400000 in
set_option maxRecDepth 100000 in
theorem uvlen_any (x : Nat) (hx : x < 18446744073709551616) (w : World) :
    Calls Try.prog 25 #[.int .u64 x] w fun e w' => e = .returned (.int .i64 (Lib.uvarint x).length) ∧ w' = w := by
  have hlen := Lib.uvarint_length64 hx
  go_enter Try.func25, Try.ntmps25
  go_wp2
  go_loop [0, 3] (fun vx vn => ∃ y k : Nat, vx = .int .u64 y ∧ vn = .int .i64 k ∧ y < 18446744073709551616 ∧ (Lib.uvarint x).length + 1 = k + (Lib.uvarint y).length) (fun vx _ => (intOf vx).toNat)
  case atStart => exact ⟨x, 1, rfl, rfl, hx, by omega⟩
  case round =>
    obtain ⟨y, k, rfl, rfl, hy, hk⟩ := hrel
    by_cases h128 : 128 ≤ y
    · have hb : (Lib.uvarint y).length = (Lib.uvarint (y / 128)).length + 1 := by rw [Lib.uvarint_big h128]; simp
      have hp := Lib.uvarint_pos (y / 128)
      have HK : Hid ((Lib.uvarint x).length + 1 = k + 1 + (Lib.uvarint (y / 128)).length) := show _ = _ by omega
      have hk10 : k ≤ 10 := by omega
      clear hk hb
      go_wp2
      go_round
      case rel => exact ⟨y / 128, k + 1, by go_num, by go_num, by omega, HK.out⟩
      case measure => simp [intOf]; omega
    · have hb : (Lib.uvarint y).length = 1 := by rw [Lib.uvarint_small (by omega)]; simp
      have HK : Hid (k = (Lib.uvarint x).length) := show _ = _ by omega
      clear hk hb
      go_wp2
      go_ret
      exact ⟨by rw [HK.out]; rfl, rfl⟩

/-! ### zzSameAt: where the bytes of 'want' stand in p from 'at' on, it says yes. -/
set_option maxHeartbeats 400000 in
set_option maxRecDepth 100000 in
theorem same_none (ap aq : Option Addr) (np cp cq k : Nat) (w : World) (hnp : np ≤ 4194304) (hk : k ≤ np) :
    Calls Try.prog 26 #[.slice ap np cp, .int .i64 k, .slice aq 0 cq] w fun e w' => e = .returned (.bool true) ∧ w' = w := by
  have h0 : ¬ ((k : Int) < 0) := by omega
  have h1 : ¬ ((np : Int) - (k : Int) < 0) := by omega
  go_enter Try.func26, Try.ntmps26
  go_wp2
  refine wp_loop_rounds 1 ?_
  rw [rounds_succ]
  go_wp2
  go_ret
  exact ⟨rfl, rfl⟩

set_option maxHeartbeats 1000000 in
set_option maxRecDepth 100000 in
theorem same_some (bp op np cp bq oq nq cq k : Nat) (ps qs : List Int) (w : World) (hnp : np ≤ 4194304) (hp : ps.length = np) (hq : qs.length = nq) (hk : k + nq ≤ np)
    (cellp : ∀ j, j < np → w.cell? ⟨bp, op + j, none⟩ = some (.int .u8 (ps.getD j 0))) (cellq : ∀ j, j < nq → w.cell? ⟨bq, oq + j, none⟩ = some (.int .u8 (qs.getD j 0)))
    (heq : ∀ j, j < nq → ps.getD (k + j) 0 = qs.getD j 0) :
    Calls Try.prog 26 #[.slice (some ⟨bp, op, none⟩) np cp, .int .i64 k, .slice (some ⟨bq, oq, none⟩) nq cq] w fun e w' => e = .returned (.bool true) ∧ ∃ n, w' = w.drewN n := by
  have h0 : ¬ ((k : Int) < 0) := by omega
  have h1 : ¬ ((np : Int) - (k : Int) < (nq : Int)) := by omega
  go_enter Try.func26, Try.ntmps26
  go_wp2
  go_loopw [7] (fun vi wr => ∃ j n : Nat, j ≤ nq ∧ vi = .int .i64 j ∧ wr = w.drewN n) (fun vi _ => nq - (intOf vi).toNat)
  case atStart => exact ⟨0, 0, Nat.zero_le _, rfl, rfl⟩
  case round =>
    obtain ⟨j, n, hj, rfl, rfl⟩ := hrel
    by_cases hlt : j < nq
    · have c1 := cellp (k + j) (by omega)
      have c2 := cellq j hlt
      rw [heq j hlt] at c1
      obtain ⟨q, hq'⟩ : ∃ q, q = qs.getD j 0 := ⟨_, rfl⟩
      rw [← hq'] at c1 c2
      clear hq' heq cellp cellq
      have b1 : (k : Int) + (j : Int) < (np : Int) := by omega
      have b2 : (j : Int) < (nq : Int) := by omega
      go_wp2
      go_quiet (fail)
      go_wp2
      go_roundw
      case rel => exact ⟨j + 1, _, by omega, by go_num, rfl⟩
      case measure => simp [intOf]; omega
    · go_wp2
      go_ret
      exact ⟨rfl, n, rfl⟩

theorem Slc.val {w : World} {v : Value} {xs : List Int} (h : Slc w v xs) : ∃ a c, v = .slice a xs.length c := by
  rcases h with ⟨rfl, rfl⟩ | ⟨x, c, rfl, _⟩
  · exact ⟨none, 0, rfl⟩
  · exact ⟨some x, c, rfl⟩

theorem Slc.pos {w : World} {v : Value} {xs : List Int} (h : Slc w v xs) (h0 : 0 < xs.length) : ∃ b o c, v = .slice (some ⟨b, o, none⟩) xs.length c ∧ ∀ j, j < xs.length → w.cell? ⟨b, o + j, none⟩ = some (.int .u8 (xs.getD j 0)) := by
  rcases h with ⟨rfl, rfl⟩ | ⟨x, c, rfl, hc⟩
  · simp at h0
  · obtain ⟨b, o, spot⟩ := x
    have hspot : spot = none := by simpa [Addr.add] using World.cell?_spot (hc 0 h0)
    subst hspot
    exact ⟨b, o, c, rfl, fun j hj => by rw [← Addr.add_lit]; exact hc j hj⟩

theorem same_any (pv qv : Value) (ps qs : List Int) (k : Nat) (w : World) (hp : Slc w pv ps) (hq : Slc w qv qs) (hnp : ps.length ≤ 4194304) (hk : k + qs.length ≤ ps.length)
    (heq : ∀ j, j < qs.length → ps.getD (k + j) 0 = qs.getD j 0) :
    Calls Try.prog 26 #[pv, .int .i64 k, qv] w fun e w' => e = .returned (.bool true) ∧ ∃ n, w' = w.drewN n := by
  by_cases h0 : 0 < qs.length
  · obtain ⟨bp, op, cp, rfl, hcp⟩ := hp.pos (by omega)
    obtain ⟨bq, oq, cq, rfl, hcq⟩ := hq.pos h0
    exact same_some bp op _ cp bq oq _ cq k ps qs w hnp rfl rfl hk hcp hcq heq
  · obtain ⟨ap, cp, rfl⟩ := hp.val
    obtain ⟨aq, cq, rfl⟩ := hq.val
    obtain rfl : qs = [] := List.eq_nil_of_length_eq_zero (by omega)
    exact (same_none ap aq _ cp cq k w hnp (by simpa using hk)).mono fun e w' ⟨he, hw⟩ => ⟨he, 0, hw⟩

/-! ### zzBytes -/
set_option maxHeartbeats 400000 in
set_option maxRecDepth 100000 in
theorem bytes_any (a0 a1 : Option Addr) (n0 c0 n1 c1 : Nat) (w : World) :
    Calls Try.prog 22 #[.slice a0 n0 c0, .slice a1 n1 c1] w fun e w' => e = .returned (.bool (decide (n0 + n1 ≤ 1048576))) ∧ w' = w := by
  by_cases h0 : n0 ≤ 1048576
  · by_cases h1 : n1 ≤ 1048576
    · by_cases h2 : n0 + n1 ≤ 1048576
      · have e : decide (n0 + n1 ≤ 1048576) = true := by simpa using h2
        go_enter Try.func22, Try.ntmps22
        go_wp2
        go_ret
        exact ⟨by rw [e]; rfl, rfl⟩
      · have e : decide (n0 + n1 ≤ 1048576) = false := by simpa using h2
        go_enter Try.func22, Try.ntmps22
        go_wp2
        go_ret
        exact ⟨by rw [e]; rfl, rfl⟩
    · have e : decide (n0 + n1 ≤ 1048576) = false := by simp; omega
      go_enter Try.func22, Try.ntmps22
      go_wp2
      go_ret
      exact ⟨by rw [e]; rfl, rfl⟩
  · have e : decide (n0 + n1 ≤ 1048576) = false := by simp; omega
    go_enter Try.func22, Try.ntmps22
    go_wp2
    go_ret
    exact ⟨by rw [e]; rfl, rfl⟩
end Go.Proofs.Qxb6614219a
