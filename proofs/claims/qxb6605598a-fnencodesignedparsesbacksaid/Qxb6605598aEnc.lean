/-
  'pbwire.AppendBytes', 'encodeSigned', 'ZZencodeSigned', 'zzUvarintLen', 'zzFieldLen', 'zzEq', 'zzBytes': a contract each.
-/
import Derived.Test.Qxb6605598aBase
namespace Go.Proofs.Qxb6605598a
open Go.RowKit
set_option linter.unusedVariables false

/-- The varint's bytes as numbers. -/
def uvz (n : Nat) : List Int := (Lib.uvarint n).map fun b => (b.toNat : Int)
theorem cel_uvz (n : Nat) : cel (uvz n) = Lib.byteCells (Lib.uvarint n) := by simp [cel, uvz, Lib.byteCells]
theorem uvz_length (n : Nat) : (uvz n).length = (Lib.uvarint n).length := by simp [uvz]
theorem cel_append (xs ys : List Int) : cel (xs ++ ys) = cel xs ++ cel ys := by simp [cel]
theorem cel_nil : cel [] = [] := rfl

/-- A length-delimited field. -/
def fld (tag : Nat) (v : List Int) : List Int := uvz tag ++ (uvz v.length ++ v)
/-- The signed message. -/
def enc (m s : List Int) : List Int := fld 10 m ++ fld 18 s

theorem uv_owned (B n x : Nat) (hx : x < 18446744073709551616) (sv : Value) (xs : List Int) (w : World) (hown : w.ownsRow B 5 1 sv n (cel xs)) (hBw : B ≤ w.heap.size) (hlim : n + 10 ≤ 140737488355328) :
    Calls Try.prog 25 #[sv, .int .u64 x] w fun e w' => ∃ v', e = .returned v' ∧ w'.ownsRow B 5 1 v' (n + (uvz x).length) (cel (xs ++ uvz x)) ∧ Below B w w' := by
  refine (Try.binary_AppendUvarint B n x hx sv (cel xs) w hown hBw hlim).mono ?_
  rintro e w' ⟨v', rfl, ho, hb⟩
  exact ⟨v', rfl, by rw [cel_append, cel_uvz, uvz_length]; exact ho, hb⟩

theorem uv_int (y : Int) (B n x : Nat) (hy : y = (x : Int)) (hx : x < 18446744073709551616) (sv : Value) (xs : List Int) (w : World) (hown : w.ownsRow B 5 1 sv n (cel xs)) (hBw : B ≤ w.heap.size) (hlim : n + 10 ≤ 140737488355328) :
    Calls Try.prog 25 #[sv, .int .u64 y] w fun e w' => ∃ v', e = .returned v' ∧ w'.ownsRow B 5 1 v' (n + (uvz x).length) (cel (xs ++ uvz x)) ∧ Below B w w' := by
  rw [hy]; exact uv_owned B n x hx sv xs w hown hBw hlim

set_option maxHeartbeats 1000000 in
set_option maxRecDepth 100000 in
theorem append_any (num : Int) (tag : Nat) (hnt : (num = 1 ∧ tag = 10) ∨ (num = 2 ∧ tag = 18)) (B n : Nat) (sv fv : Value) (xs fs : List Int) (w : World) (hown : w.ownsRow B 5 1 sv n (cel xs)) (hBw : B ≤ w.heap.size) (hn : n ≤ 4194304)
    (hf : Full w fv fs) (hfB : ∀ g, fv.ownBlock = some g → g < B) (h2 : fs.length ≤ 1048576) :
    Calls Try.prog 22 #[sv, .int .i64 num, fv] w fun e w' => ∃ v', e = .returned v' ∧ w'.ownsRow B 5 1 v' (n + (fld tag fs).length) (cel (xs ++ fld tag fs)) ∧ Below B w w' := by
  obtain ⟨i0, hi, hz0, hz1, hz2⟩ := info_parts info5
  have hul := Lib.uvarint_length64 (x := fs.length) (by omega)
  have htl := Lib.uvarint_length64 (x := tag) (by omega)
  have htg : tag < 18446744073709551616 := by omega
  rw [← uvz_length] at hul htl
  have fin : ∀ (v3 : Value) (w3 : World), w3.ownsRow B 5 1 v3 (n + (uvz tag).length + (uvz fs.length).length + fs.length) (cel (xs ++ uvz tag ++ uvz fs.length) ++ cel fs) → w3.ownsRow B 5 1 v3 (n + (fld tag fs).length) (cel (xs ++ fld tag fs)) := by
    intro v3 w3 h
    have e1 : n + (fld tag fs).length = n + (uvz tag).length + (uvz fs.length).length + fs.length := by simp [fld]; omega
    have e2 : cel (xs ++ fld tag fs) = cel (xs ++ uvz tag ++ uvz fs.length) ++ cel fs := by simp [fld, cel_append, List.append_assoc]
    rw [e1, e2]; exact h
  have ho1 : bits .or .u64 8 2 = 10 := by decide
  have ho2 : bits .or .u64 16 2 = 18 := by decide
  rcases hnt with ⟨rfl, rfl⟩ | ⟨rfl, rfl⟩
  · skip
    rcases hf with ⟨rfl, rfl⟩ | ⟨g, rfl, hg⟩
    · go_enter Try.func22, Try.ntmps22
      go_wp2_with fail
      refine (uv_int 10 B n 10 rfl htg sv xs _ hown hBw (by omega)).mono ?_
      rintro e w1 ⟨v1, rfl, o1, b1⟩
      have s1 : B ≤ w1.heap.size := Nat.le_trans hBw b1.size
      go_wp2_with fail
      refine (uv_int 0 B (n + (uvz 10).length) 0 rfl (by omega) v1 _ _ o1 s1 (by omega)).mono ?_
      rintro e w2 ⟨v2, rfl, o2, b2⟩
      go_wp2_with (at_builtin; refine wpList_append_own_none rfl (.tmp 18) (.tmp 19) 22 rfl B 5 i0 1 Try.underlying22 hi v2 _ _ rfl o2 rfl ?_)
      go_ret
      exact ⟨v2, rfl, fin v2 w2 (by simpa [cel_nil] using o2), b1.trans b2⟩
    · have hgB := hfB g rfl
      have hlen : (fs.length : Int) ≤ 1048576 := by omega
      go_enter Try.func22, Try.ntmps22
      go_wp2_with fail
      refine (uv_int 10 B n 10 rfl htg sv xs _ hown hBw (by omega)).mono ?_
      rintro e w1 ⟨v1, rfl, o1, b1⟩
      have s1 : B ≤ w1.heap.size := Nat.le_trans hBw b1.size
      go_wp2_with fail
      refine (uv_int _ B (n + (uvz 10).length) fs.length rfl (by omega) v1 _ _ o1 s1 (by omega)).mono ?_
      rintro e w2 ⟨v2, rfl, o2, b2⟩
      have hg2 := (b2.block g hgB).trans ((b1.block g hgB).trans hg)
      have b12 := b1.trans b2
      have s2 : B ≤ w2.heap.size := Nat.le_trans s1 b2.size
      clear hg
      go_wp2_with (at_builtin; refine wpList_append_own _ rfl (.tmp 18) (.tmp 19) 22 rfl B 5 i0 (.int .u8 0) 1 1 Try.underlying22 hi hz0 hz1 hz2 rfl (by decide) v2 _ _ rfl o2 ⟨g, 0, none⟩ fs.length fs.length (cel fs) rfl (by simp [cel_length]) (Full.cell hg2) (cel_one fs) (by unfold maxLen; omega) (by omega) s2 ?_; intro v3 w3 o3 g3 _)
      go_ret
      exact ⟨v3, rfl, fin v3 w3 o3, b12.grown g3 s2 (fun k hk => (o2.lt k hk).1)⟩
  · skip
    rcases hf with ⟨rfl, rfl⟩ | ⟨g, rfl, hg⟩
    · go_enter Try.func22, Try.ntmps22
      go_wp2_with fail
      refine (uv_int 18 B n 18 rfl htg sv xs _ hown hBw (by omega)).mono ?_
      rintro e w1 ⟨v1, rfl, o1, b1⟩
      have s1 : B ≤ w1.heap.size := Nat.le_trans hBw b1.size
      go_wp2_with fail
      refine (uv_int 0 B (n + (uvz 18).length) 0 rfl (by omega) v1 _ _ o1 s1 (by omega)).mono ?_
      rintro e w2 ⟨v2, rfl, o2, b2⟩
      go_wp2_with (at_builtin; refine wpList_append_own_none rfl (.tmp 18) (.tmp 19) 22 rfl B 5 i0 1 Try.underlying22 hi v2 _ _ rfl o2 rfl ?_)
      go_ret
      exact ⟨v2, rfl, fin v2 w2 (by simpa [cel_nil] using o2), b1.trans b2⟩
    · have hgB := hfB g rfl
      have hlen : (fs.length : Int) ≤ 1048576 := by omega
      go_enter Try.func22, Try.ntmps22
      go_wp2_with fail
      refine (uv_int 18 B n 18 rfl htg sv xs _ hown hBw (by omega)).mono ?_
      rintro e w1 ⟨v1, rfl, o1, b1⟩
      have s1 : B ≤ w1.heap.size := Nat.le_trans hBw b1.size
      go_wp2_with fail
      refine (uv_int _ B (n + (uvz 18).length) fs.length rfl (by omega) v1 _ _ o1 s1 (by omega)).mono ?_
      rintro e w2 ⟨v2, rfl, o2, b2⟩
      have hg2 := (b2.block g hgB).trans ((b1.block g hgB).trans hg)
      have b12 := b1.trans b2
      have s2 : B ≤ w2.heap.size := Nat.le_trans s1 b2.size
      clear hg
      go_wp2_with (at_builtin; refine wpList_append_own _ rfl (.tmp 18) (.tmp 19) 22 rfl B 5 i0 (.int .u8 0) 1 1 Try.underlying22 hi hz0 hz1 hz2 rfl (by decide) v2 _ _ rfl o2 ⟨g, 0, none⟩ fs.length fs.length (cel fs) rfl (by simp [cel_length]) (Full.cell hg2) (cel_one fs) (by unfold maxLen; omega) (by omega) s2 ?_; intro v3 w3 o3 g3 _)
      go_ret
      exact ⟨v3, rfl, fin v3 w3 o3, b12.grown g3 s2 (fun k hk => (o2.lt k hk).1)⟩

theorem Full.block {w : World} {v : Value} {xs : List Int} (h : Full w v xs) : ∀ g, v.ownBlock = some g → g < w.heap.size := by
  rcases h with ⟨rfl, rfl⟩ | ⟨g, rfl, hg⟩
  · intro g h; simp [Value.ownBlock] at h
  · intro k hk
    simp only [Value.ownBlock, Option.some.injEq] at hk
    subst hk
    rcases Nat.lt_or_ge g w.heap.size with h | h
    · exact h
    · simp [Array.getElem?_eq_none h] at hg

theorem fld_length (tag : Nat) (fs : List Int) (h1 : tag ≤ 18) (h : fs.length ≤ 1048576) : (fld tag fs).length ≤ 20 + fs.length := by
  have hul := Lib.uvarint_length64 (x := fs.length) (by omega)
  have htl := Lib.uvarint_length64 (x := tag) (by omega)
  rw [← uvz_length] at hul htl
  simp [fld]; omega

set_option maxHeartbeats 1000000 in
set_option maxRecDepth 100000 in
theorem signed_any (mv sv : Value) (ms ss : List Int) (w : World) (hm : Full w mv ms) (hs : Full w sv ss) (h1 : ms.length ≤ 1048576) (h2 : ss.length ≤ 1048576) :
    Calls Try.prog 19 #[mv, sv] w fun e w' => ∃ v', e = .returned v' ∧ w'.ownsRow w.heap.size 5 1 v' (enc ms ss).length (cel (enc ms ss)) ∧ Below w.heap.size w w' := by
  have l1 := fld_length 10 ms (by omega) h1
  go_enter Try.func19, Try.ntmps19
  go_wp2_with fail
  refine (append_any 1 10 (.inl ⟨rfl, rfl⟩) w.heap.size 0 (.slice none 0 0) mv [] ms w (World.ownsRow_nil _ _ _ _) (Nat.le_refl _) (by omega) hm hm.block h1).mono ?_
  rintro e w1 ⟨v1, rfl, o1, b1⟩
  have hs1 : Full w1 sv ss := hs.kept (Kept.of b1)
  go_wp2_with fail
  refine (append_any 2 18 (.inr ⟨rfl, rfl⟩) w.heap.size _ v1 sv _ ss w1 o1 b1.size (by omega) hs1 hs.block h2).mono ?_
  rintro e w2 ⟨v2, rfl, o2, b2⟩
  go_wp2
  go_ret
  exact ⟨v2, rfl, by simpa [enc] using o2, b1.trans b2⟩

set_option maxHeartbeats 1000000 in
set_option maxRecDepth 100000 in
theorem zzsigned_any (mv sv : Value) (ms ss : List Int) (w : World) (hm : Full w mv ms) (hs : Full w sv ss) (h1 : ms.length ≤ 1048576) (h2 : ss.length ≤ 1048576) :
    Calls Try.prog 9 #[mv, sv] w fun e w' => ∃ g cap, e = .returned (.slice (some ⟨g, 0, none⟩) (enc ms ss).length cap) ∧ (enc ms ss).length ≤ cap ∧ cap ≤ maxLen ∧ Slc w' (.slice (some ⟨g, 0, none⟩) (enc ms ss).length cap) (enc ms ss) ∧ Kept w w' := by
  go_enter Try.func9, Try.ntmps9
  go_wp2_with fail
  refine (signed_any mv sv ms ss _ hm hs h1 h2).mono ?_
  rintro e w1 ⟨v1, rfl, o1, b1⟩
  go_wp2
  go_ret
  have hp : 0 < (enc ms ss).length := by
    have := Lib.uvarint_pos 10
    rw [← uvz_length] at this
    simp [enc, fld]; omega
  rcases o1.2 with ⟨_, h0⟩ | ⟨g, cap, cur, h3, _, _, h6, h7, _⟩
  · omega
  · exact ⟨g, cap, by rw [← h3]; rfl, h6, h7, h3 ▸ slc_of_owns o1, Kept.of b1⟩

/-! ### zzUvarintLen, zzFieldLen -/
set_option maxHeartbeats 400000 in
set_option maxRecDepth 100000 in
theorem uvlen_any (x : Nat) (hx : x < 18446744073709551616) (w : World) :
    Calls Try.prog 21 #[.int .u64 x] w fun e w' => e = .returned (.int .i64 (Lib.uvarint x).length) ∧ w' = w := by
  have hlen := Lib.uvarint_length64 hx
  go_enter Try.func21, Try.ntmps21
  go_wp2
  go_loop [0, 3] (fun vx vn => ∃ y k : Nat, vx = .int .u64 y ∧ vn = .int .i64 k ∧ y < 18446744073709551616 ∧ (Lib.uvarint x).length + 1 = k + (Lib.uvarint y).length) (fun vx _ => (intOf vx).toNat)
  case atStart => exact ⟨x, 1, rfl, rfl, hx, by omega⟩
  case round =>
    obtain ⟨y, k, rfl, rfl, hy, hk⟩ := hrel
    by_cases h128 : 128 ≤ y
    · have hb : (Lib.uvarint y).length = (Lib.uvarint (y / 128)).length + 1 := by rw [Lib.uvarint_big h128]; simp
      have hp := Lib.uvarint_pos (y / 128)
      have HK : Hid ((Lib.uvarint x).length + 1 = k + 1 + (Lib.uvarint (y / 128)).length) := show _ = _ by omega
      have hk10 : k ≤ 10 := by omega
      clear hk hb
      go_wp2
      go_round
      case rel => exact ⟨y / 128, k + 1, by go_num, by go_num, by omega, HK.out⟩
      case measure => simp [intOf]; omega
    · have hb : (Lib.uvarint y).length = 1 := by rw [Lib.uvarint_small (by omega)]; simp
      have HK : Hid (k = (Lib.uvarint x).length) := show _ = _ by omega
      clear hk hb
      go_wp2
      go_ret
      exact ⟨by rw [HK.out]; rfl, rfl⟩

set_option maxHeartbeats 400000 in
set_option maxRecDepth 100000 in
theorem fieldlen_any (n : Nat) (hn : n ≤ 1048576) (w : World) :
    Calls Try.prog 13 #[.int .i64 n] w fun e w' => e = .returned (.int .i64 ((1 + (Lib.uvarint n).length + n : Nat) : Int)) ∧ w' = w := by
  have hlen := Lib.uvarint_length64 (x := n) (by omega)
  go_enter Try.func13, Try.ntmps13
  go_wp2_with (go_at_call 21; refine (uvlen_any n (by omega) _).mono ?_; rintro e w1 ⟨rfl, hw⟩; subst w1)
  go_ret
  exact ⟨by simp, rfl⟩

/-! ### zzEq -/
set_option maxHeartbeats 400000 in
set_option maxRecDepth 100000 in
theorem eq_short (aa ab : Option Addr) (na ca nb cb : Nat) (w : World) (hna : na ≤ 4194304) (hnb : nb ≤ 4194304) (h : na ≠ nb) :
    Calls Try.prog 11 #[.slice aa na ca, .slice ab nb cb] w fun e w' => e = .returned (.bool false) ∧ w' = w := by
  have hne : ((na : Int) != (nb : Int)) = true := by simp; omega
  go_enter Try.func11, Try.ntmps11
  go_wp2
  go_ret
  exact ⟨rfl, rfl⟩

set_option maxHeartbeats 400000 in
set_option maxRecDepth 100000 in
theorem eq_none (aa ab : Option Addr) (ca cb : Nat) (w : World) :
    Calls Try.prog 11 #[.slice aa 0 ca, .slice ab 0 cb] w fun e w' => e = .returned (.bool true) ∧ w' = w := by
  go_enter Try.func11, Try.ntmps11
  go_wp2
  refine wp_loop_rounds 1 ?_
  rw [rounds_succ]
  go_wp2
  go_ret
  exact ⟨rfl, rfl⟩

set_option maxHeartbeats 1000000 in
set_option maxRecDepth 100000 in
theorem eq_some (ba oa ca bb ob cb n : Nat) (xs ys : List Int) (w : World) (hn : n ≤ 4194304) (hx : xs.length = n) (hy : ys.length = n)
    (cellx : ∀ j, j < n → w.cell? ⟨ba, oa + j, none⟩ = some (.int .u8 (xs.getD j 0))) (celly : ∀ j, j < n → w.cell? ⟨bb, ob + j, none⟩ = some (.int .u8 (ys.getD j 0))) :
    Calls Try.prog 11 #[.slice (some ⟨ba, oa, none⟩) n ca, .slice (some ⟨bb, ob, none⟩) n cb] w fun e w' => e = .returned (.bool (decide (xs = ys))) ∧ ∃ m, w' = w.drewN m := by
  have hne : ((n : Int) != (n : Int)) = false := by simp
  go_enter Try.func11, Try.ntmps11
  go_wp2
  go_loopw [5] (fun vi wr => ∃ j m : Nat, j ≤ n ∧ vi = .int .i64 j ∧ wr = w.drewN m ∧ Hid (xs.take j = ys.take j)) (fun vi _ => n - (intOf vi).toNat)
  case atStart => exact ⟨0, 0, Nat.zero_le _, rfl, rfl, rfl⟩
  case round =>
    obtain ⟨j, m, hj, rfl, rfl, ht⟩ := hrel
    by_cases hlt : j < n
    · have c1 := cellx j hlt
      have c2 := celly j hlt
      obtain ⟨p, hp⟩ : ∃ p, p = xs.getD j 0 := ⟨_, rfl⟩
      obtain ⟨q, hq⟩ : ∃ q, q = ys.getD j 0 := ⟨_, rfl⟩
      rw [← hp] at c1
      rw [← hq] at c2
      have HP : Hid (p = xs.getD j 0) := hp
      have HQ : Hid (q = ys.getD j 0) := hq
      have HX : Hid _ := hx
      have HY : Hid _ := hy
      clear hp hq cellx celly hx hy
      have b2 : (j : Int) < (n : Int) := by omega
      by_cases hpq : p = q
      · subst hpq
        go_wp2
        go_quiet (fail)
        go_wp2
        go_roundw
        case rel =>
          refine ⟨j + 1, _, by omega, by go_num, rfl, ?_⟩
          show xs.take (j + 1) = ys.take (j + 1)
          have h1 : j < xs.length := by rw [HX.out]; exact hlt
          have h2 : j < ys.length := by rw [HY.out]; exact hlt
          have e3 : xs[j] = ys[j] := by
            have e1 := HP.out
            have e2 := HQ.out
            rw [List.getD_eq_getElem?_getD, List.getElem?_eq_getElem h1] at e1
            rw [List.getD_eq_getElem?_getD, List.getElem?_eq_getElem h2] at e2
            simp at e1 e2
            rw [← e1, ← e2]
          rw [List.take_succ_eq_append_getElem h1, List.take_succ_eq_append_getElem h2, ht.out, e3]
        case measure => simp [intOf]; omega
      · have hpq' : (p != q) = true := by simpa using hpq
        have hf : decide (xs = ys) = false := by
          simp only [decide_eq_false_iff_not]
          intro e
          rw [HP.out, HQ.out, e] at hpq
          exact hpq rfl
        have HF : Hid _ := hf
        clear hf hpq
        go_wp2
        go_quiet (fail)
        go_wp2
        go_ret
        exact ⟨by rw [HF.out]; rfl, m + nq, by rw [World.drewN_drewN]⟩
    · obtain rfl : j = n := by omega
      have hf : decide (xs = ys) = true := by
        have := ht.out
        rw [List.take_of_length_le (by omega), List.take_of_length_le (by omega)] at this
        simpa using this
      have HF : Hid _ := hf
      clear hf
      go_wp2
      go_ret
      exact ⟨by rw [HF.out]; rfl, _, rfl⟩

theorem Slc.val {w : World} {v : Value} {xs : List Int} (h : Slc w v xs) : ∃ a c, v = .slice a xs.length c := by
  rcases h with ⟨rfl, rfl⟩ | ⟨x, c, rfl, _⟩
  · exact ⟨none, 0, rfl⟩
  · exact ⟨some x, c, rfl⟩

theorem Slc.pos {w : World} {v : Value} {xs : List Int} (h : Slc w v xs) (h0 : 0 < xs.length) : ∃ b o c, v = .slice (some ⟨b, o, none⟩) xs.length c ∧ ∀ j, j < xs.length → w.cell? ⟨b, o + j, none⟩ = some (.int .u8 (xs.getD j 0)) := by
  rcases h with ⟨rfl, rfl⟩ | ⟨x, c, rfl, hc⟩
  · simp at h0
  · obtain ⟨b, o, spot⟩ := x
    have hspot : spot = none := by simpa [Addr.add] using World.cell?_spot (hc 0 h0)
    subst hspot
    exact ⟨b, o, c, rfl, fun j hj => by rw [← Addr.add_lit]; exact hc j hj⟩

theorem eq_any (av bv : Value) (xs ys : List Int) (w : World) (hx : Slc w av xs) (hy : Slc w bv ys) (h1 : xs.length ≤ 4194304) (h2 : ys.length ≤ 4194304) :
    Calls Try.prog 11 #[av, bv] w fun e w' => e = .returned (.bool (decide (xs = ys))) ∧ ∃ m, w' = w.drewN m := by
  by_cases hl : xs.length = ys.length
  · by_cases h0 : 0 < xs.length
    · obtain ⟨ba, oa, ca, rfl, hca⟩ := hx.pos h0
      obtain ⟨bb, ob, cb, rfl, hcb⟩ := hy.pos (by omega)
      have := eq_some ba oa ca bb ob cb xs.length xs ys w h1 rfl hl.symm hca (by rw [hl]; exact hcb)
      rw [hl] at this ⊢
      exact this
    · obtain rfl : xs = [] := List.eq_nil_of_length_eq_zero (by omega)
      obtain rfl : ys = [] := List.eq_nil_of_length_eq_zero (by simpa using hl.symm)
      obtain ⟨aa, ca, rfl⟩ := hx.val
      obtain ⟨ab, cb, rfl⟩ := hy.val
      exact (eq_none aa ab ca cb w).mono fun e w' ⟨he, hw⟩ => ⟨he, 0, hw⟩
  · obtain ⟨aa, ca, rfl⟩ := hx.val
    obtain ⟨ab, cb, rfl⟩ := hy.val
    refine (eq_short aa ab _ ca _ cb w h1 h2 hl).mono fun e w' ⟨he, hw⟩ => ⟨?_, 0, hw⟩
    rw [he]
    have : decide (xs = ys) = false := by
      simp only [decide_eq_false_iff_not]
      rintro rfl
      exact hl rfl
    rw [this]

/-! ### zzBytes -/
set_option maxHeartbeats 400000 in
set_option maxRecDepth 100000 in
theorem bytes2_any (a0 a1 : Option Addr) (n0 c0 n1 c1 : Nat) (w : World) :
    Calls Try.prog 7 #[.slice a0 n0 c0, .slice a1 n1 c1] w fun e w' => e = .returned (.bool (decide (n0 + n1 ≤ 1048576))) ∧ w' = w := by
  by_cases h0 : n0 ≤ 1048576
  · by_cases h1 : n1 ≤ 1048576
    · by_cases h2 : n0 + n1 ≤ 1048576
      · have e : decide (n0 + n1 ≤ 1048576) = true := by simpa using h2
        go_enter Try.func7, Try.ntmps7
        go_wp2
        go_ret
        exact ⟨by rw [e]; rfl, rfl⟩
      · have e : decide (n0 + n1 ≤ 1048576) = false := by simpa using h2
        go_enter Try.func7, Try.ntmps7
        go_wp2
        go_ret
        exact ⟨by rw [e]; rfl, rfl⟩
    · have e : decide (n0 + n1 ≤ 1048576) = false := by simp; omega
      go_enter Try.func7, Try.ntmps7
      go_wp2
      go_ret
      exact ⟨by rw [e]; rfl, rfl⟩
  · have e : decide (n0 + n1 ≤ 1048576) = false := by simp; omega
    go_enter Try.func7, Try.ntmps7
    go_wp2
    go_ret
    exact ⟨by rw [e]; rfl, rfl⟩

set_option maxHeartbeats 1000000 in
set_option maxRecDepth 100000 in
theorem bytes4_any (a0 a1 a2 a3 : Option Addr) (n0 c0 n1 c1 n2 c2 n3 c3 : Nat) (w : World) :
    Calls Try.prog 12 #[.slice a0 n0 c0, .slice a1 n1 c1, .slice a2 n2 c2, .slice a3 n3 c3] w fun e w' => e = .returned (.bool (decide (n0 + n1 + n2 + n3 ≤ 1048576))) ∧ w' = w := by
  by_cases h0 : n0 ≤ 1048576
  · by_cases h1 : n0 + n1 ≤ 1048576
    · by_cases h2 : n0 + n1 + n2 ≤ 1048576
      · by_cases h3 : n0 + n1 + n2 + n3 ≤ 1048576
        · have e : decide (n0 + n1 + n2 + n3 ≤ 1048576) = true := by simpa using h3
          go_enter Try.func12, Try.ntmps12
          go_wp2
          go_ret
          exact ⟨by rw [e]; rfl, rfl⟩
        · have e : decide (n0 + n1 + n2 + n3 ≤ 1048576) = false := by simpa using h3
          by_cases h4 : n3 ≤ 1048576
          all_goals
            go_enter Try.func12, Try.ntmps12
            go_wp2
            go_ret
            exact ⟨by rw [e]; rfl, rfl⟩
      · have e : decide (n0 + n1 + n2 + n3 ≤ 1048576) = false := by simp; omega
        by_cases h4 : n2 ≤ 1048576
        all_goals
          go_enter Try.func12, Try.ntmps12
          go_wp2
          go_ret
          exact ⟨by rw [e]; rfl, rfl⟩
    · have e : decide (n0 + n1 + n2 + n3 ≤ 1048576) = false := by simp; omega
      by_cases h4 : n1 ≤ 1048576
      all_goals
        go_enter Try.func12, Try.ntmps12
        go_wp2
        go_ret
        exact ⟨by rw [e]; rfl, rfl⟩
  · have e : decide (n0 + n1 + n2 + n3 ≤ 1048576) = false := by simp; omega
    go_enter Try.func12, Try.ntmps12
    go_wp2
    go_ret
    exact ⟨by rw [e]; rfl, rfl⟩
end Go.Proofs.Qxb6605598a
