/-
  'zzReadUvarint', 'zzReadField': a contract each, at a varint of at most three bytes.
-/
import Derived.Test.Qxb6605598aPlain
namespace Go.Proofs.Qxb6605598a
open Go.RowKit
set_option linter.unusedVariables false

set_option maxRecDepth 100000 in
theorem and127_nat : ∀ a : Fin 256, (a.val &&& 127) = a.val % 128 := by decide
theorem and127 (c : Nat) (hc : c < 256) : bits .and .u8 (c : Int) 127 = ((c % 128 : Nat) : Int) := by
  have h := (bits_nat .u8 8 (by decide) wraps_u8 c 127 (by simpa using hc) (by decide)).1
  have e : ((127 : Nat) : Int) = 127 := rfl
  rw [e] at h
  rw [h, and127_nat ⟨c, hc⟩]
theorem or_add (a b k : Nat) (ha : a < 2 ^ k) (hs : b * 2 ^ k < 18446744073709551616) (ha2 : a < 18446744073709551616) : bits .or .u64 (a : Int) ((b * 2 ^ k : Nat) : Int) = ((a + b * 2 ^ k : Nat) : Int) := by
  have h := (bits_nat .u64 64 (by decide) (fun n h0 h1 => by rw [IntKind.wrap_u64]; omega) a (b * 2 ^ k) (by simpa using ha2) (by simpa using hs)).2
  rw [h, Nat.or_comm, ← Nat.shiftLeft_eq, ← Nat.shiftLeft_add_eq_or_of_lt ha, Nat.shiftLeft_eq, Nat.add_comm]
theorem or_int (a b : Nat) (k p : Nat) (hp : 2 ^ k = p) (ha : a < p) (hs : b * p < 18446744073709551616) (ha2 : a < 18446744073709551616) : bits .or .u64 (a : Int) ((b : Int) * (p : Int)) = (a : Int) + (b : Int) * (p : Int) := by
  subst hp
  have h := or_add a b k ha hs ha2
  have e : ((b * 2 ^ k : Nat) : Int) = (b : Int) * ((2 ^ k : Nat) : Int) := Int.natCast_mul _ _
  rw [Int.natCast_add, e] at h
  exact h
theorem tup3 {a a' b b' : Int} (h1 : a = a') (h2 : b = b') : Ending.returned (.tuple #[.int .u64 a, .int .i64 b, .bool true]) = .returned (.tuple #[.int .u64 a', .int .i64 b', .bool true]) := by rw [h1, h2]
theorem wrap64_id (a : Nat) (h : a < 18446744073709551616) : IntKind.u64.wrap (a : Int) = a := by rw [IntKind.wrap_u64]; omega

set_option maxHeartbeats 1000000 in
set_option maxRecDepth 100000 in
theorem read1 (g n cap i x : Nat) (w : World) (hn : n ≤ 4194304) (hi : i < n) (hx : x < 128) (c0 : w.cell? ⟨g, i, none⟩ = some (.int .u8 x)) :
    Calls Try.prog 20 #[.slice (some ⟨g, 0, none⟩) n cap, .int .i64 i] w fun e w' => e = .returned (.tuple #[.int .u64 x, .int .i64 ((i + 1 : Nat) : Int), .bool true]) ∧ w' = w := by
  have h0 : ¬ (i : Int) < 0 := by omega
  have h1 : (i : Int) < (n : Int) := by omega
  have a0 : bits .and .u8 (x : Int) 127 = (x : Int) := by rw [and127 x (by omega), Nat.mod_eq_of_lt hx]
  have z0 : IntKind.u64.wrap (x : Int) = (x : Int) := wrap64_id x (by omega)
  have r0 : bits .or .u64 0 (x : Int) = (x : Int) := by simpa using or_add 0 x 0 (by decide) (by omega) (by decide)
  go_enter Try.func20, Try.ntmps20
  go_wp2
  refine wp_loop_rounds 1 ?_
  rw [rounds_succ]
  go_wp2
  go_ret3
  exact ⟨rfl, rfl⟩

set_option maxHeartbeats 1000000 in
set_option maxRecDepth 100000 in
theorem read2 (g n cap i b0 b1 : Nat) (w : World) (hn : n ≤ 4194304) (hi : i + 1 < n) (hb0 : b0 < 128) (hb1 : b1 < 128) (c0 : w.cell? ⟨g, i, none⟩ = some (.int .u8 ((b0 + 128 : Nat) : Int))) (c1 : w.cell? ⟨g, i + 1, none⟩ = some (.int .u8 b1)) :
    Calls Try.prog 20 #[.slice (some ⟨g, 0, none⟩) n cap, .int .i64 i] w fun e w' => e = .returned (.tuple #[.int .u64 ((b0 + b1 * 128 : Nat) : Int), .int .i64 ((i + 2 : Nat) : Int), .bool true]) ∧ w' = w := by
  have h0 : ¬ (i : Int) < 0 := by omega
  have h1 : (i : Int) + 1 < (n : Int) := by omega
  obtain ⟨d, hd⟩ : ∃ d, d = b0 + 128 := ⟨_, rfl⟩
  have hd1 : 128 ≤ d := by omega
  have hd2 : d < 256 := by omega
  rw [← hd] at c0
  have a0 : bits .and .u8 (d : Int) 127 = (b0 : Int) := by rw [and127 d hd2, hd]; congr 1; omega
  have a1 : bits .and .u8 (b1 : Int) 127 = (b1 : Int) := by rw [and127 b1 (by omega), Nat.mod_eq_of_lt hb1]
  have z0 : IntKind.u64.wrap (b0 : Int) = (b0 : Int) := wrap64_id b0 (by omega)
  have z1 : IntKind.u64.wrap (b1 : Int) = (b1 : Int) := wrap64_id b1 (by omega)
  have r0 : bits .or .u64 0 (b0 : Int) = (b0 : Int) := by simpa using or_add 0 b0 0 (by decide) (by omega) (by decide)
  have r1 : bits .or .u64 (b0 : Int) ((b1 : Int) * 128) = (b0 : Int) + (b1 : Int) * 128 := or_int b0 b1 7 128 (by decide) (by omega) (by omega) (by omega)
  clear hd
  go_enter Try.func20, Try.ntmps20
  go_wp2
  refine wp_loop_rounds 2 ?_
  rw [rounds_succ]
  go_wp2
  rw [rounds_succ]
  go_wp2
  go_ret3
  exact ⟨tup3 (by omega) (by omega), rfl⟩

set_option maxHeartbeats 1000000 in
set_option maxRecDepth 100000 in
theorem read3 (g n cap i b0 b1 b2 : Nat) (w : World) (hn : n ≤ 4194304) (hi : i + 2 < n) (hb0 : b0 < 128) (hb1 : b1 < 128) (hb2 : b2 < 128) (c0 : w.cell? ⟨g, i, none⟩ = some (.int .u8 ((b0 + 128 : Nat) : Int))) (c1 : w.cell? ⟨g, i + 1, none⟩ = some (.int .u8 ((b1 + 128 : Nat) : Int))) (c2 : w.cell? ⟨g, i + 1 + 1, none⟩ = some (.int .u8 b2)) :
    Calls Try.prog 20 #[.slice (some ⟨g, 0, none⟩) n cap, .int .i64 i] w fun e w' => e = .returned (.tuple #[.int .u64 ((b0 + b1 * 128 + b2 * 16384 : Nat) : Int), .int .i64 ((i + 3 : Nat) : Int), .bool true]) ∧ w' = w := by
  have h0 : ¬ (i : Int) < 0 := by omega
  have h1 : (i : Int) + 2 < (n : Int) := by omega
  obtain ⟨d, hd⟩ : ∃ d, d = b0 + 128 := ⟨_, rfl⟩
  have hd1 : 128 ≤ d := by omega
  have hd2 : d < 256 := by omega
  rw [← hd] at c0
  obtain ⟨d', hd'⟩ : ∃ d', d' = b1 + 128 := ⟨_, rfl⟩
  have hd1' : 128 ≤ d' := by omega
  have hd2' : d' < 256 := by omega
  rw [← hd'] at c1
  have a0 : bits .and .u8 (d : Int) 127 = (b0 : Int) := by rw [and127 d hd2, hd]; congr 1; omega
  have a1 : bits .and .u8 (d' : Int) 127 = (b1 : Int) := by rw [and127 d' hd2', hd']; congr 1; omega
  have a2 : bits .and .u8 (b2 : Int) 127 = (b2 : Int) := by rw [and127 b2 (by omega), Nat.mod_eq_of_lt hb2]
  have z0 : IntKind.u64.wrap (b0 : Int) = (b0 : Int) := wrap64_id b0 (by omega)
  have z1 : IntKind.u64.wrap (b1 : Int) = (b1 : Int) := wrap64_id b1 (by omega)
  have z2 : IntKind.u64.wrap (b2 : Int) = (b2 : Int) := wrap64_id b2 (by omega)
  have r0 : bits .or .u64 0 (b0 : Int) = (b0 : Int) := by simpa using or_add 0 b0 0 (by decide) (by omega) (by decide)
  obtain ⟨q, hq⟩ : ∃ q : Nat, q = b0 + b1 * 128 := ⟨_, rfl⟩
  have r1 : bits .or .u64 (b0 : Int) ((b1 : Int) * 128) = (q : Int) := (or_int b0 b1 7 128 (by decide) (by omega) (by omega) (by omega)).trans (by rw [hq]; omega)
  have r2 : bits .or .u64 (q : Int) ((b2 : Int) * 16384) = (q : Int) + (b2 : Int) * 16384 := or_int q b2 14 16384 (by decide) (by omega) (by omega) (by omega)
  have HQ : Hid (q = b0 + b1 * 128) := hq
  clear hd hd' hq
  go_enter Try.func20, Try.ntmps20
  go_wp2
  refine wp_loop_rounds 3 ?_
  rw [rounds_succ]
  go_wp2
  rw [rounds_succ]
  go_wp2
  rw [rounds_succ]
  go_wp2
  go_ret3
  exact ⟨tup3 (by have := HQ.out; omega) (by omega), rfl⟩

/-- A varint below 2^21 at place i. -/
theorem read_any (g cap i x : Nat) (pre rest : List Int) (w : World) (hx : x < 2097152) (hp : pre.length = i) (hn : (pre ++ (uvz x ++ rest)).length ≤ 4194304)
    (hs : Slc w (.slice (some ⟨g, 0, none⟩) (pre ++ (uvz x ++ rest)).length cap) (pre ++ (uvz x ++ rest))) :
    Calls Try.prog 20 #[.slice (some ⟨g, 0, none⟩) (pre ++ (uvz x ++ rest)).length cap, .int .i64 i] w fun e w' => e = .returned (.tuple #[.int .u64 x, .int .i64 ((i + (uvz x).length : Nat) : Int), .bool true]) ∧ w' = w := by
  have hcell : ∀ j (hj : j < (pre ++ (uvz x ++ rest)).length), w.cell? ⟨g, j, none⟩ = some (.int .u8 ((pre ++ (uvz x ++ rest)).getD j 0)) := by
    rcases hs with ⟨h, _⟩ | ⟨y, c, h, hc⟩
    · simp at h
    · simp only [Value.slice.injEq, Option.some.injEq] at h
      obtain ⟨rfl, _, _⟩ := h
      intro j hj
      have := hc j hj
      rwa [Addr.add_lit, Nat.zero_add] at this
  have at' : ∀ t (ht : t < (uvz x).length), w.cell? ⟨g, i + t, none⟩ = some (.int .u8 ((uvz x).getD t 0)) := by
    intro t ht
    rw [hcell (i + t) (by simp; omega)]
    simp only [List.getD_eq_getElem?_getD]
    rw [List.getElem?_append_right (by omega), show i + t - pre.length = t by omega, List.getElem?_append_left ht]
  have hlen : i + (uvz x).length ≤ (pre ++ (uvz x ++ rest)).length := by simp; omega
  generalize (pre ++ (uvz x ++ rest)).length = n at *
  by_cases h1 : x < 128
  · rw [uvz_small h1] at at' hlen ⊢
    have c0 := at' 0 (by simp)
    exact read1 g n cap i x w hn (by simp at hlen; omega) h1 (by simpa using c0)
  by_cases h2 : x < 16384
  · rw [uvz_big (by omega), uvz_small (show x / 128 < 128 by omega)] at at' hlen ⊢
    have c0 := at' 0 (by simp)
    have c1 := at' 1 (by simp)
    have := read2 g n cap i (x % 128) (x / 128) w hn (by simp at hlen; omega) (by omega) (by omega) (by simpa using c0) (by simpa using c1)
    rw [show x % 128 + x / 128 * 128 = x by omega] at this
    exact this
  · rw [uvz_big (by omega), uvz_big (show 128 ≤ x / 128 by omega), uvz_small (show x / 128 / 128 < 128 by omega)] at at' hlen ⊢
    have c0 := at' 0 (by simp)
    have c1 := at' 1 (by simp)
    have c2 := at' 2 (by simp)
    have := read3 g n cap i (x % 128) (x / 128 % 128) (x / 128 / 128) w hn (by simp at hlen; omega) (by omega) (by omega) (by omega) (by simpa using c0) (by simpa using c1) (by simpa using c2)
    rw [show x % 128 + x / 128 % 128 * 128 + x / 128 / 128 * 16384 = x by omega] at this
    exact this

/-! ### zzReadField at a length-delimited field -/
theorem tup6 {a a' : Int} {v : Value} {b b' : Int} {t : Int} (h1 : a = a') (h2 : b = b') : Ending.returned (.tuple #[.int .u64 a, .int .u64 t, .int .u64 0, v, .int .i64 b, .bool true]) = .returned (.tuple #[.int .u64 a', .int .u64 t, .int .u64 0, v, .int .i64 b', .bool true]) := by rw [h1, h2]

set_option maxHeartbeats 2000000 in
set_option maxRecDepth 100000 in
theorem field_any (num tag : Nat) (hnt : (num = 1 ∧ tag = 10) ∨ (num = 2 ∧ tag = 18)) (g n cap i j k m : Nat) (w : World) (hn : n ≤ 4194304) (hnc : n ≤ cap) (hcm : cap ≤ maxLen) (hm : k + m ≤ n) (hm2 : m ≤ 1048576)
    (t1 : ∀ wx, (∃ q, wx = w.drewN q) → Calls Try.prog 20 #[.slice (some ⟨g, 0, none⟩) n cap, .int .i64 i] wx fun e w' => e = .returned (.tuple #[.int .u64 tag, .int .i64 j, .bool true]) ∧ w' = wx)
    (t2 : ∀ wx, (∃ q, wx = w.drewN q) → Calls Try.prog 20 #[.slice (some ⟨g, 0, none⟩) n cap, .int .i64 j] wx fun e w' => e = .returned (.tuple #[.int .u64 m, .int .i64 k, .bool true]) ∧ w' = wx) :
    Calls Try.prog 10 #[.slice (some ⟨g, 0, none⟩) n cap, .int .i64 i] w fun e w' => ∃ a c, e = .returned (.tuple #[.int .u64 num, .int .u64 2, .int .u64 0, .slice (some a) m c, .int .i64 ((k + m : Nat) : Int), .bool true]) ∧ (0 < m → a = ⟨g, k, none⟩) ∧ ∃ q, w' = w.drewN q := by
  unfold maxLen at hcm
  have T1 : Hid _ := t1
  have T2 : Hid _ := t2
  clear t1 t2
  rcases hnt with ⟨rfl, rfl⟩ | ⟨rfl, rfl⟩
  · have ha : bits .and .u64 10 7 = 2 := by decide
    go_enter Try.func10, Try.ntmps10
    go_wp2_with fail
    refine (T1.out _ ⟨0, rfl⟩).mono ?_
    rintro e w1 ⟨rfl, hw⟩
    subst w1
    go_wp2_with fail
    refine (T2.out _ ⟨0, rfl⟩).mono ?_
    rintro e w2 ⟨rfl, hw⟩
    subst w2
    go_wp2_with fail
    have x1 : (0 : Int) ≤ (k : Int) := by omega
    have x2 : (k : Int) ≤ (k : Int) + (m : Int) := by omega
    have x3 : (k : Int) + (m : Int) ≤ (cap : Int) := by omega
    go_quiet (fail)
    all_goals go_wp2
    all_goals first
      | (refine bodyPost_ret (v := .tuple #[.int .u64 1, .int .u64 2, .int .u64 0, .slice (some ⟨g, k, none⟩) m (cap - k), .int .i64 ((k : Int) + (m : Int)), .bool true]) ?_ rfl ⟨_, ⟨_, rfl⟩, fun _ => rfl, _, rfl⟩; simp [results, Try.results10, go_sem]; done)
      | (refine bodyPost_ret (v := .tuple #[.int .u64 1, .int .u64 2, .int .u64 0, .slice (some ⟨g, 0, none⟩) m 0, .int .i64 ((k : Int) + (m : Int)), .bool true]) ?_ rfl ⟨_, ⟨_, rfl⟩, fun h => ?_, _, rfl⟩; simp [results, Try.results10, go_sem]; omega; done)
  · have ha : bits .and .u64 18 7 = 2 := by decide
    go_enter Try.func10, Try.ntmps10
    go_wp2_with fail
    refine (T1.out _ ⟨0, rfl⟩).mono ?_
    rintro e w1 ⟨rfl, hw⟩
    subst w1
    go_wp2_with fail
    refine (T2.out _ ⟨0, rfl⟩).mono ?_
    rintro e w2 ⟨rfl, hw⟩
    subst w2
    go_wp2_with fail
    have x1 : (0 : Int) ≤ (k : Int) := by omega
    have x2 : (k : Int) ≤ (k : Int) + (m : Int) := by omega
    have x3 : (k : Int) + (m : Int) ≤ (cap : Int) := by omega
    go_quiet (fail)
    all_goals go_wp2
    all_goals first
      | (refine bodyPost_ret (v := .tuple #[.int .u64 2, .int .u64 2, .int .u64 0, .slice (some ⟨g, k, none⟩) m (cap - k), .int .i64 ((k : Int) + (m : Int)), .bool true]) ?_ rfl ⟨_, ⟨_, rfl⟩, fun _ => rfl, _, rfl⟩; simp [results, Try.results10, go_sem]; done)
      | (refine bodyPost_ret (v := .tuple #[.int .u64 2, .int .u64 2, .int .u64 0, .slice (some ⟨g, 0, none⟩) m 0, .int .i64 ((k : Int) + (m : Int)), .bool true]) ?_ rfl ⟨_, ⟨_, rfl⟩, fun h => ?_, _, rfl⟩; simp [results, Try.results10, go_sem]; omega; done)

theorem read_at (g cap i x : Nat) (L pre rest : List Int) (w : World) (hL : L = pre ++ (uvz x ++ rest)) (hx : x < 2097152) (hp : pre.length = i) (hn : L.length ≤ 4194304) (hs : Slc w (.slice (some ⟨g, 0, none⟩) L.length cap) L) :
    ∀ wx, (∃ q, wx = w.drewN q) → Calls Try.prog 20 #[.slice (some ⟨g, 0, none⟩) L.length cap, .int .i64 i] wx fun e w' => e = .returned (.tuple #[.int .u64 x, .int .i64 ((i + (uvz x).length : Nat) : Int), .bool true]) ∧ w' = wx := by
  subst hL
  rintro wx ⟨q, rfl⟩
  exact read_any g cap i x pre rest (w.drewN q) hx hp hn hs

/-- One field of the message, read back. -/
theorem read_field (num tag : Nat) (hnt : (num = 1 ∧ tag = 10) ∨ (num = 2 ∧ tag = 18)) (g cap i : Nat) (L pre v rest : List Int) (w : World) (hL : L = pre ++ (fld tag v ++ rest)) (hp : pre.length = i) (hn : L.length ≤ 4194304) (hv : v.length ≤ 1048576) (hnc : L.length ≤ cap) (hcm : cap ≤ maxLen)
    (hs : Slc w (.slice (some ⟨g, 0, none⟩) L.length cap) L) :
    Calls Try.prog 10 #[.slice (some ⟨g, 0, none⟩) L.length cap, .int .i64 i] w fun e w' => ∃ a c, e = .returned (.tuple #[.int .u64 num, .int .u64 2, .int .u64 0, .slice (some a) v.length c, .int .i64 ((i + (fld tag v).length : Nat) : Int), .bool true]) ∧
      Slc w' (.slice (some a) v.length c) v ∧ ∃ q, w' = w.drewN q := by
  have ht1 : (uvz tag).length = 1 := by rcases hnt with ⟨_, rfl⟩ | ⟨_, rfl⟩ <;> (rw [uvz_small (by decide)]; rfl)
  have e1 : L = pre ++ (uvz tag ++ (uvz v.length ++ (v ++ rest))) := by rw [hL]; simp [fld]
  have e2 : L = (pre ++ uvz tag) ++ (uvz v.length ++ (v ++ rest)) := by rw [e1]; simp
  have e3 : L = (pre ++ (uvz tag ++ uvz v.length)) ++ (v ++ rest) := by rw [e1]; simp
  have t1 := read_at g cap i tag L pre _ w e1 (by omega) hp hn hs
  have t2 := read_at g cap (i + 1) v.length L (pre ++ uvz tag) _ w e2 (by omega) (by simp [ht1, hp]) hn hs
  rw [ht1] at t1
  have hlen : i + 1 + (uvz v.length).length + v.length ≤ L.length := by rw [e3]; simp [ht1, hp]; omega
  have hfl : (fld tag v).length = 1 + (uvz v.length).length + v.length := by simp [fld, ht1]; omega
  have := field_any num tag hnt g L.length cap i (i + 1) (i + 1 + (uvz v.length).length) v.length w hn hnc hcm hlen hv t1 t2
  refine this.mono ?_
  rintro e w' ⟨a, c, rfl, ha, q, rfl⟩
  refine ⟨a, c, ?_, .inr ⟨a, c, rfl, fun j hj => ?_⟩, q, rfl⟩
  · rw [hfl, show i + (1 + (uvz v.length).length + v.length) = i + 1 + (uvz v.length).length + v.length by omega]
  · rw [ha (by omega), Addr.add_lit]
    rcases hs with ⟨h, _⟩ | ⟨y, c', h, hc⟩
    · simp at h
    · simp only [Value.slice.injEq, Option.some.injEq] at h
      obtain ⟨rfl, _, _⟩ := h
      have h2 := hc (i + 1 + (uvz v.length).length + j) (by omega)
      rw [Addr.add_lit, Nat.zero_add] at h2
      refine Eq.trans (show (w.drewN q).cell? _ = w.cell? _ from rfl) (h2.trans ?_)
      congr 2
      have hpl : (pre ++ (uvz tag ++ uvz v.length)).length = i + 1 + (uvz v.length).length := by simp [ht1, hp]; omega
      rw [e3]
      simp only [List.getD_eq_getElem?_getD]
      rw [List.getElem?_append_right (by omega), hpl, show i + 1 + (uvz v.length).length + j - (i + 1 + (uvz v.length).length) = j by omega, List.getElem?_append_left hj]
end Go.Proofs.Qxb6605598a
