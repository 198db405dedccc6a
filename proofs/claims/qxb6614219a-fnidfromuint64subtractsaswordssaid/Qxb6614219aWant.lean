/-
  THE PLAIN LAW of 'FnIDFromUint64SubtractsAsWords': the bytes of a difference.
-/
import Derived.Test.Qxb6614219aNum
namespace Go.Proofs.Qxb6614219a

/-- The high twelve bytes. -/
def high (a b : Nat) : List UInt8 := if a < b then List.replicate 12 255 else List.replicate 12 0
theorem high_length (a b : Nat) : (high a b).length = 12 := by unfold high; split <;> simp
/-- The difference of two words. -/
def diffN (a b : Nat) : Nat := (a + 18446744073709551616 - b) % 18446744073709551616
theorem diffN_lt (a b : Nat) : diffN a b < 18446744073709551616 := Nat.mod_lt _ (by decide)

theorem ff : Lib.beBytes 12 79228162514264337593543950335 = List.replicate 12 255 := by decide
theorem oo : Lib.beBytes 12 0 = List.replicate 12 0 := by decide

theorem sub_bytes (a b : Nat) (ha : a < 18446744073709551616) (hb : b < 18446744073709551616) : Lib.beBytes 20 (subN a b) = high a b ++ Lib.beBytes 8 (diffN a b) := by
  rw [show (20 : Nat) = 12 + 8 from rfl, beBytes_add, pow8, ← beBytes_mod 8 (subN a b), pow8]
  have e2 : subN a b % 18446744073709551616 = diffN a b := by unfold subN diffN; omega
  rw [e2]
  unfold high
  by_cases h : a < b
  · have e1 : subN a b / 18446744073709551616 = 79228162514264337593543950335 := by unfold subN; omega
    rw [e1, if_pos h, ff]
  · have e1 : subN a b / 18446744073709551616 = 0 := by unfold subN; omega
    rw [e1, if_neg h, oo]

/-- Where a >= b the difference is the identifier of a - b. -/
theorem sub_ge (a b : Nat) (ha : a < 18446744073709551616) (h : b ≤ a) : subN a b = diffN a b := by unfold subN diffN; omega

/-- The array 'want' behind j rounds of the second loop. -/
def wantJ (P : List UInt8) (D j : Nat) : List UInt8 := P ++ (List.replicate (8 - j) 0 ++ Lib.beBytes j D)
theorem wantJ_length (P : List UInt8) (D j : Nat) (hP : P.length = 12) (hj : j ≤ 8) : (wantJ P D j).length = 20 := by
  simp [wantJ, Lib.beBytes_length, hP]; omega
theorem wantJ_zero (P : List UInt8) (D : Nat) : wantJ P D 0 = P ++ List.replicate 8 0 := by simp [wantJ, Lib.beBytes, Lib.leBytes]
theorem wantJ_full (P : List UInt8) (D : Nat) : wantJ P D 8 = P ++ Lib.beBytes 8 D := by simp [wantJ]
theorem wantJ_set (P : List UInt8) (D j : Nat) (hP : P.length = 12) (hj : j < 8) : (wantJ P D j).set (19 - j) (D / 256 ^ j % 256).toUInt8 = wantJ P D (j + 1) := by
  unfold wantJ
  have e1 : List.replicate (8 - j) (0 : UInt8) = List.replicate (8 - (j + 1)) 0 ++ [0] := by
    rw [show 8 - j = (8 - (j + 1)) + 1 by omega]; exact List.replicate_succ'
  have e2 : Lib.beBytes (j + 1) D = (D / 256 ^ j % 256).toUInt8 :: Lib.beBytes j D := by
    rw [Nat.add_comm, beBytes_add]; rfl
  rw [e1, e2, List.append_assoc, List.singleton_append, List.set_append_right _ _ (by omega), List.set_append_right _ _ (by simp; omega)]
  congr 2
  rw [List.length_replicate, hP, show 19 - j - 12 - (8 - (j + 1)) = 0 by omega]
  rfl

/-- The array 'want' behind k rounds of the first loop. -/
def wantI (k : Nat) : List UInt8 := List.replicate k 255 ++ List.replicate (20 - k) 0
theorem wantI_length (k : Nat) (hk : k ≤ 20) : (wantI k).length = 20 := by simp [wantI]; omega
theorem wantI_set (k : Nat) (hk : k < 20) : (wantI k).set k 255 = wantI (k + 1) := by
  unfold wantI
  rw [show 20 - k = (20 - (k + 1)) + 1 by omega, List.replicate_succ, List.set_append_right _ _ (by simp)]
  simp [List.replicate_succ']
theorem wantI_done (a b : Nat) (h : a < b) : wantI 12 = high a b ++ List.replicate 8 0 := by simp [wantI, high, h]
theorem wantI_none (a b : Nat) (h : ¬ a < b) : wantI 0 = high a b ++ List.replicate 8 0 := by simp only [wantI, high, if_neg h]; decide
end Go.Proofs.Qxb6614219a
