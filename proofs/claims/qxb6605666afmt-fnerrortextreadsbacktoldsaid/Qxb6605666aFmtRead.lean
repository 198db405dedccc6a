/-
  'zzReadErrorNumber' at a text whose number has one to five digits: a contract each.
-/
import Derived.Test.Qxb6605666aFmtText
namespace Go.Proofs.Qxb6605666aFmt
open Go.RowKit
set_option linter.unusedVariables false

theorem tup3 {a a' b b' : Int} (h1 : a = a') (h2 : b = b') : Ending.returned (.tuple #[.int .i64 a, .int .i64 b, .bool true]) = .returned (.tuple #[.int .i64 a', .int .i64 b', .bool true]) := by rw [h1, h2]

set_option maxHeartbeats 2000000 in
set_option maxRecDepth 100000 in
theorem readNum1 (s : ByteArray) (d0 : Nat) (l0 : 48 ≤ d0) (u0 : d0 ≤ 57) (hsz : 9 ≤ s.size) (hmax : s.size ≤ 4194304) (hx : s.extract 0 6 = { data := #[101, 114, 114, 111, 114, 32] }) (g0 : ∀ h : 6 < s.size, (s[6]'h).toNat = d0) (gs : ∀ h : 7 < s.size, (s[7]'h).toNat = 32) (gp : ∀ h : 8 < s.size, (s[8]'h).toNat = 40) (w : World) :
    Calls Tryf.prog 6 #[.string s] w fun e w' => e = .returned (.tuple #[.int .i64 ((0) * 10 + ((d0 : Int) - 48)), .int .i64 9, .bool true]) ∧ w' = w := by
  have b0 : 6 < s.size := by omega
  have c0 : (6 : Int) < (s.size : Int) := by omega
  have b1 : 7 < s.size := by omega
  have c1 : (7 : Int) < (s.size : Int) := by omega
  have b2 : 8 < s.size := by omega
  have c2 : (8 : Int) < (s.size : Int) := by omega
  go_enter Tryf.func6, Tryf.ntmps6
  go_wp2
  refine wp_loop_rounds 2 ?_
  rw [rounds_succ]
  go_wp2
  rw [rounds_succ]
  go_wp2
  go_ret3
  exact ⟨tup3 (by omega) (by omega), rfl⟩

set_option maxHeartbeats 2000000 in
set_option maxRecDepth 100000 in
theorem readNum2 (s : ByteArray) (d0 d1 : Nat) (l0 : 48 ≤ d0) (u0 : d0 ≤ 57) (l1 : 48 ≤ d1) (u1 : d1 ≤ 57) (nz : d0 ≠ 48) (hsz : 10 ≤ s.size) (hmax : s.size ≤ 4194304) (hx : s.extract 0 6 = { data := #[101, 114, 114, 111, 114, 32] }) (g0 : ∀ h : 6 < s.size, (s[6]'h).toNat = d0) (g1 : ∀ h : 7 < s.size, (s[7]'h).toNat = d1) (gs : ∀ h : 8 < s.size, (s[8]'h).toNat = 32) (gp : ∀ h : 9 < s.size, (s[9]'h).toNat = 40) (w : World) :
    Calls Tryf.prog 6 #[.string s] w fun e w' => e = .returned (.tuple #[.int .i64 ((((0) * 10 + ((d0 : Int) - 48))) * 10 + ((d1 : Int) - 48)), .int .i64 10, .bool true]) ∧ w' = w := by
  have b0 : 6 < s.size := by omega
  have c0 : (6 : Int) < (s.size : Int) := by omega
  have b1 : 7 < s.size := by omega
  have c1 : (7 : Int) < (s.size : Int) := by omega
  have b2 : 8 < s.size := by omega
  have c2 : (8 : Int) < (s.size : Int) := by omega
  have b3 : 9 < s.size := by omega
  have c3 : (9 : Int) < (s.size : Int) := by omega
  go_enter Tryf.func6, Tryf.ntmps6
  go_wp2
  refine wp_loop_rounds 3 ?_
  rw [rounds_succ]
  go_wp2
  rw [rounds_succ]
  go_wp2
  rw [rounds_succ]
  go_wp2
  go_ret3
  exact ⟨tup3 (by omega) (by omega), rfl⟩

set_option maxHeartbeats 2000000 in
set_option maxRecDepth 100000 in
theorem readNum3 (s : ByteArray) (d0 d1 d2 : Nat) (l0 : 48 ≤ d0) (u0 : d0 ≤ 57) (l1 : 48 ≤ d1) (u1 : d1 ≤ 57) (l2 : 48 ≤ d2) (u2 : d2 ≤ 57) (nz : d0 ≠ 48) (hsz : 11 ≤ s.size) (hmax : s.size ≤ 4194304) (hx : s.extract 0 6 = { data := #[101, 114, 114, 111, 114, 32] }) (g0 : ∀ h : 6 < s.size, (s[6]'h).toNat = d0) (g1 : ∀ h : 7 < s.size, (s[7]'h).toNat = d1) (g2 : ∀ h : 8 < s.size, (s[8]'h).toNat = d2) (gs : ∀ h : 9 < s.size, (s[9]'h).toNat = 32) (gp : ∀ h : 10 < s.size, (s[10]'h).toNat = 40) (w : World) :
    Calls Tryf.prog 6 #[.string s] w fun e w' => e = .returned (.tuple #[.int .i64 ((((((0) * 10 + ((d0 : Int) - 48))) * 10 + ((d1 : Int) - 48))) * 10 + ((d2 : Int) - 48)), .int .i64 11, .bool true]) ∧ w' = w := by
  have b0 : 6 < s.size := by omega
  have c0 : (6 : Int) < (s.size : Int) := by omega
  have b1 : 7 < s.size := by omega
  have c1 : (7 : Int) < (s.size : Int) := by omega
  have b2 : 8 < s.size := by omega
  have c2 : (8 : Int) < (s.size : Int) := by omega
  have b3 : 9 < s.size := by omega
  have c3 : (9 : Int) < (s.size : Int) := by omega
  have b4 : 10 < s.size := by omega
  have c4 : (10 : Int) < (s.size : Int) := by omega
  go_enter Tryf.func6, Tryf.ntmps6
  go_wp2
  refine wp_loop_rounds 4 ?_
  rw [rounds_succ]
  go_wp2
  rw [rounds_succ]
  go_wp2
  rw [rounds_succ]
  go_wp2
  rw [rounds_succ]
  go_wp2
  go_ret3
  exact ⟨tup3 (by omega) (by omega), rfl⟩

set_option maxHeartbeats 2000000 in
set_option maxRecDepth 100000 in
theorem readNum4 (s : ByteArray) (d0 d1 d2 d3 : Nat) (l0 : 48 ≤ d0) (u0 : d0 ≤ 57) (l1 : 48 ≤ d1) (u1 : d1 ≤ 57) (l2 : 48 ≤ d2) (u2 : d2 ≤ 57) (l3 : 48 ≤ d3) (u3 : d3 ≤ 57) (nz : d0 ≠ 48) (hsz : 12 ≤ s.size) (hmax : s.size ≤ 4194304) (hx : s.extract 0 6 = { data := #[101, 114, 114, 111, 114, 32] }) (g0 : ∀ h : 6 < s.size, (s[6]'h).toNat = d0) (g1 : ∀ h : 7 < s.size, (s[7]'h).toNat = d1) (g2 : ∀ h : 8 < s.size, (s[8]'h).toNat = d2) (g3 : ∀ h : 9 < s.size, (s[9]'h).toNat = d3) (gs : ∀ h : 10 < s.size, (s[10]'h).toNat = 32) (gp : ∀ h : 11 < s.size, (s[11]'h).toNat = 40) (w : World) :
    Calls Tryf.prog 6 #[.string s] w fun e w' => e = .returned (.tuple #[.int .i64 ((((((((0) * 10 + ((d0 : Int) - 48))) * 10 + ((d1 : Int) - 48))) * 10 + ((d2 : Int) - 48))) * 10 + ((d3 : Int) - 48)), .int .i64 12, .bool true]) ∧ w' = w := by
  have b0 : 6 < s.size := by omega
  have c0 : (6 : Int) < (s.size : Int) := by omega
  have b1 : 7 < s.size := by omega
  have c1 : (7 : Int) < (s.size : Int) := by omega
  have b2 : 8 < s.size := by omega
  have c2 : (8 : Int) < (s.size : Int) := by omega
  have b3 : 9 < s.size := by omega
  have c3 : (9 : Int) < (s.size : Int) := by omega
  have b4 : 10 < s.size := by omega
  have c4 : (10 : Int) < (s.size : Int) := by omega
  have b5 : 11 < s.size := by omega
  have c5 : (11 : Int) < (s.size : Int) := by omega
  go_enter Tryf.func6, Tryf.ntmps6
  go_wp2
  refine wp_loop_rounds 5 ?_
  rw [rounds_succ]
  go_wp2
  rw [rounds_succ]
  go_wp2
  rw [rounds_succ]
  go_wp2
  rw [rounds_succ]
  go_wp2
  rw [rounds_succ]
  go_wp2
  go_ret3
  exact ⟨tup3 (by omega) (by omega), rfl⟩

set_option maxHeartbeats 2000000 in
set_option maxRecDepth 100000 in
theorem readNum5 (s : ByteArray) (d0 d1 d2 d3 d4 : Nat) (l0 : 48 ≤ d0) (u0 : d0 ≤ 57) (l1 : 48 ≤ d1) (u1 : d1 ≤ 57) (l2 : 48 ≤ d2) (u2 : d2 ≤ 57) (l3 : 48 ≤ d3) (u3 : d3 ≤ 57) (l4 : 48 ≤ d4) (u4 : d4 ≤ 57) (nz : d0 ≠ 48) (hsz : 13 ≤ s.size) (hmax : s.size ≤ 4194304) (hx : s.extract 0 6 = { data := #[101, 114, 114, 111, 114, 32] }) (g0 : ∀ h : 6 < s.size, (s[6]'h).toNat = d0) (g1 : ∀ h : 7 < s.size, (s[7]'h).toNat = d1) (g2 : ∀ h : 8 < s.size, (s[8]'h).toNat = d2) (g3 : ∀ h : 9 < s.size, (s[9]'h).toNat = d3) (g4 : ∀ h : 10 < s.size, (s[10]'h).toNat = d4) (gs : ∀ h : 11 < s.size, (s[11]'h).toNat = 32) (gp : ∀ h : 12 < s.size, (s[12]'h).toNat = 40) (w : World) :
    Calls Tryf.prog 6 #[.string s] w fun e w' => e = .returned (.tuple #[.int .i64 ((((((((((0) * 10 + ((d0 : Int) - 48))) * 10 + ((d1 : Int) - 48))) * 10 + ((d2 : Int) - 48))) * 10 + ((d3 : Int) - 48))) * 10 + ((d4 : Int) - 48)), .int .i64 13, .bool true]) ∧ w' = w := by
  have b0 : 6 < s.size := by omega
  have c0 : (6 : Int) < (s.size : Int) := by omega
  have b1 : 7 < s.size := by omega
  have c1 : (7 : Int) < (s.size : Int) := by omega
  have b2 : 8 < s.size := by omega
  have c2 : (8 : Int) < (s.size : Int) := by omega
  have b3 : 9 < s.size := by omega
  have c3 : (9 : Int) < (s.size : Int) := by omega
  have b4 : 10 < s.size := by omega
  have c4 : (10 : Int) < (s.size : Int) := by omega
  have b5 : 11 < s.size := by omega
  have c5 : (11 : Int) < (s.size : Int) := by omega
  have b6 : 12 < s.size := by omega
  have c6 : (12 : Int) < (s.size : Int) := by omega
  go_enter Tryf.func6, Tryf.ntmps6
  go_wp2
  refine wp_loop_rounds 6 ?_
  rw [rounds_succ]
  go_wp2
  rw [rounds_succ]
  go_wp2
  rw [rounds_succ]
  go_wp2
  rw [rounds_succ]
  go_wp2
  rw [rounds_succ]
  go_wp2
  rw [rounds_succ]
  go_wp2
  go_ret3
  exact ⟨tup3 (by omega) (by omega), rfl⟩

end Go.Proofs.Qxb6605666aFmt
