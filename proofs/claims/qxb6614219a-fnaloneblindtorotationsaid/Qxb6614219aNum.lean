/-
  PLAIN: the bytes of a number, the greatest first. No Go in sight.
-/
import Derived.Lib.EndianMore
namespace Go.Proofs.Qxb6614219a

theorem leBytes_add : ∀ (k m v : Nat), Lib.leBytes (k + m) v = Lib.leBytes k v ++ Lib.leBytes m (v / 256 ^ k)
  | 0, m, v => by simp [Lib.leBytes]
  | k + 1, m, v => by
    rw [Nat.add_right_comm k 1 m]
    simp only [Lib.leBytes, List.cons_append]
    rw [leBytes_add k m, Nat.div_div_eq_div_mul, Nat.pow_succ, Nat.mul_comm 256]
theorem beBytes_add (m k v : Nat) : Lib.beBytes (m + k) v = Lib.beBytes m (v / 256 ^ k) ++ Lib.beBytes k v := by
  simp only [Lib.beBytes]
  rw [Nat.add_comm m k, leBytes_add, List.reverse_append]
theorem leBytes_mod : ∀ (k v : Nat), Lib.leBytes k (v % 256 ^ k) = Lib.leBytes k v
  | 0, v => rfl
  | k + 1, v => by
    simp only [Lib.leBytes]
    rw [Nat.pow_succ, Nat.mul_comm (256 ^ k) 256, Nat.mod_mul_right_mod, Nat.mod_mul_right_div_self, leBytes_mod k]
theorem beBytes_mod (k v : Nat) : Lib.beBytes k (v % 256 ^ k) = Lib.beBytes k v := by simp only [Lib.beBytes, leBytes_mod]
theorem leBytes_leNat : ∀ (l : List UInt8), Lib.leBytes l.length (Lib.leNat l) = l
  | [] => rfl
  | b :: r => by
    have hb : b.toNat < 256 := b.toNat_lt
    simp only [List.length_cons, Lib.leBytes, Lib.leNat]
    rw [show (b.toNat + 256 * Lib.leNat r) % 256 = b.toNat by omega, show (b.toNat + 256 * Lib.leNat r) / 256 = Lib.leNat r by omega, leBytes_leNat r]
    simp
theorem beBytes_beNat (l : List UInt8) : Lib.beBytes l.length (Lib.beNat l) = l := by
  have := leBytes_leNat l.reverse
  rw [List.length_reverse] at this
  rw [Lib.beNat_eq, Lib.beBytes, this, List.reverse_reverse]
theorem leNat_lt : ∀ (l : List UInt8), Lib.leNat l < 256 ^ l.length
  | [] => by simp [Lib.leNat]
  | b :: r => by
    have hb : b.toNat < 256 := b.toNat_lt
    have := leNat_lt r
    simp only [Lib.leNat, List.length_cons, Nat.pow_succ]
    omega
theorem beNat_lt (l : List UInt8) : Lib.beNat l < 256 ^ l.length := by
  have := leNat_lt l.reverse
  rwa [List.length_reverse, ← Lib.beNat_eq] at this
theorem beNat_beBytes' (k v : Nat) : Lib.beNat (Lib.beBytes k v) = v % 256 ^ k := by
  rw [← beBytes_mod, Lib.beNat_beBytes k _ (Nat.mod_lt _ (Nat.pow_pos (by decide)))]
theorem beBytes_inj {k a b : Nat} (ha : a < 256 ^ k) (hb : b < 256 ^ k) (h : Lib.beBytes k a = Lib.beBytes k b) : a = b := by
  rw [← Lib.beNat_beBytes k a ha, h, Lib.beNat_beBytes k b hb]

/-- 2 ^ 160, 2 ^ 128, 2 ^ 64. -/
theorem pow20 : (256 : Nat) ^ 20 = 1461501637330902918203684832716283019655932542976 := by decide
theorem pow16 : (256 : Nat) ^ 16 = 340282366920938463463374607431768211456 := by decide
theorem pow8 : (256 : Nat) ^ 8 = 18446744073709551616 := by decide
theorem pow4 : (256 : Nat) ^ 4 = 4294967296 := by decide

theorem id_parts (N : Nat) : Lib.beBytes 20 N = Lib.beBytes 4 (N / 340282366920938463463374607431768211456) ++ Lib.beBytes 8 (N / 18446744073709551616) ++ Lib.beBytes 8 N := by
  rw [show (20 : Nat) = 12 + 8 from rfl, beBytes_add, show (12 : Nat) = 4 + 8 from rfl, beBytes_add, pow8, Nat.div_div_eq_div_mul]
theorem id_take (N : Nat) : Lib.beNat ((Lib.beBytes 20 N).take 4) = N / 340282366920938463463374607431768211456 % 4294967296 := by
  rw [id_parts, List.append_assoc, List.take_append_of_le_length (by rw [Lib.beBytes_length]; decide), List.take_of_length_le (by rw [Lib.beBytes_length]; decide), beNat_beBytes', pow4]
theorem id_mid (N : Nat) : Lib.beNat (((Lib.beBytes 20 N).drop 4).take 8) = N / 18446744073709551616 % 18446744073709551616 := by
  have h : ((Lib.beBytes 20 N).drop 4) = Lib.beBytes 8 (N / 18446744073709551616) ++ Lib.beBytes 8 N := by
    rw [id_parts, List.append_assoc]
    exact List.drop_left' (Lib.beBytes_length _ _)
  rw [h, List.take_left' (Lib.beBytes_length _ _), beNat_beBytes', pow8]
theorem id_low (N : Nat) : Lib.beNat (((Lib.beBytes 20 N).drop 12).take 8) = N % 18446744073709551616 := by
  have h : ((Lib.beBytes 20 N).drop 12) = Lib.beBytes 8 N := by
    rw [id_parts]
    exact List.drop_left' (by rw [List.length_append, Lib.beBytes_length, Lib.beBytes_length])
  rw [h, List.take_of_length_le (by rw [Lib.beBytes_length]; decide), beNat_beBytes', pow8]
theorem id_join (hi mid lo : Nat) (h2 : mid < 18446744073709551616) (h3 : lo < 18446744073709551616) :
    Lib.beBytes 4 hi ++ Lib.beBytes 8 mid ++ Lib.beBytes 8 lo = Lib.beBytes 20 (hi * 340282366920938463463374607431768211456 + mid * 18446744073709551616 + lo) := by
  rw [id_parts]
  rw [show (hi * 340282366920938463463374607431768211456 + mid * 18446744073709551616 + lo) / 340282366920938463463374607431768211456 = hi by omega]
  rw [show (hi * 340282366920938463463374607431768211456 + mid * 18446744073709551616 + lo) / 18446744073709551616 = hi * 18446744073709551616 + mid by omega]
  rw [← beBytes_mod 8 (hi * 18446744073709551616 + mid), ← beBytes_mod 8 (hi * 340282366920938463463374607431768211456 + mid * 18446744073709551616 + lo), pow8]
  rw [show (hi * 18446744073709551616 + mid) % 18446744073709551616 = mid by omega, show (hi * 340282366920938463463374607431768211456 + mid * 18446744073709551616 + lo) % 18446744073709551616 = lo by omega]

/-- The difference on the ring, by words. -/
def subN (A B : Nat) : Nat := (A + 1461501637330902918203684832716283019655932542976 - B) % 1461501637330902918203684832716283019655932542976
theorem subN_lt (A B : Nat) : subN A B < 1461501637330902918203684832716283019655932542976 := Nat.mod_lt _ (by decide)
end Go.Proofs.Qxb6614219a
