/-
  THE PLAIN LAW of 'FnErrorTextReadsBack': the numeral of at most five digits; the reader at the whole text; the text's tail; two texts are one only where the numbers are.
-/
import Derived.Test.Qxb6605666aFmtRead
namespace Go.Proofs.Qxb6605666aFmt
open Go.RowKit
set_option linter.unusedVariables false

theorem ofNat_digit (x : Nat) (h : x < 10) : (UInt8.ofNat (48 + x)).toNat = 48 + x := by
  simp [UInt8.toNat_ofNat']; omega

theorem itoa_nat (n : Nat) : Lib.itoa (n : Int) = Lib.decDigits n := by
  unfold Lib.itoa; rw [if_neg (by omega)]; simp

/-- What a numeral stands for. -/
def val (l : List UInt8) : Nat := l.foldl (fun a d => a * 10 + (d.toNat - 48)) 0
theorem val_dec (n : Nat) : val (Lib.decDigits n) = n := by
  induction n using Nat.strongRecOn with
  | _ n ih =>
    by_cases h : n < 10
    · rw [Lib.decDigits, dif_pos h]
      simp only [val, List.foldl]
      rw [ofNat_digit n h]; omega
    · rw [Lib.decDigits, dif_neg h]
      have q := ih (n / 10) (by omega)
      simp only [val] at q ⊢
      rw [List.foldl_append, q]
      simp only [List.foldl]
      rw [ofNat_digit (n % 10) (by omega)]; omega
theorem itoa_inj {m n : Nat} (h : Lib.itoa (m : Int) = Lib.itoa (n : Int)) : m = n := by
  rw [itoa_nat, itoa_nat] at h
  have := congrArg val h
  rwa [val_dec, val_dec] at this

theorem dec_small {n : Nat} (h : n < 10) : Lib.decDigits n = [UInt8.ofNat (48 + n)] := by rw [Lib.decDigits, dif_pos h]
theorem dec_big {n : Nat} (h : ¬ n < 10) : Lib.decDigits n = Lib.decDigits (n / 10) ++ [UInt8.ofNat (48 + n % 10)] := by rw [Lib.decDigits, dif_neg h]

/-- The text with its number spelt. -/
def full (D rest : List UInt8) : ByteArray := { data := ([101, 114, 114, 111, 114, 32] ++ D ++ [32, 40] ++ rest).toArray }

theorem full_head (D rest : List UInt8) : (full D rest).extract 0 6 = { data := #[101, 114, 114, 111, 114, 32] } := by
  unfold full
  rw [ByteArray.extract_mk]
  simp

theorem tup3' {a a' : Int} {b b' : Int} {w w' : World} (h1 : a = a') (h2 : b = b') : (∀ e wx, (e = Ending.returned (.tuple #[.int .i64 a, .int .i64 b, .bool true]) ∧ wx = w) → (e = .returned (.tuple #[.int .i64 a', .int .i64 b', .bool true]) ∧ wx = w)) := by
  subst h1; subst h2; exact fun _ _ h => h

theorem dec1 (n : Nat) (h1 : n < 10) : Lib.decDigits n = [UInt8.ofNat (48 + n)] := by
  rw [dec_small (by omega)]
set_option maxRecDepth 100000 in
theorem reads1 (n : Nat) (h1 : n < 10) (rest : List UInt8) (hr : rest.length ≤ 1048600) (w : World) :
    Calls Tryf.prog 6 #[.string (full [UInt8.ofNat (48 + n)] rest)] w fun e w' => e = .returned (.tuple #[.int .i64 n, .int .i64 9, .bool true]) ∧ w' = w :=
  (readNum1 (full [UInt8.ofNat (48 + n)] rest) (48 + n) (by omega) (by omega) (by simp [full, ByteArray.size]) (by simp [full, ByteArray.size]; omega) (full_head _ _) (fun h => ofNat_digit (n) (by omega)) (fun h => rfl) (fun h => rfl) w).mono (tup3' (w' := w) (by omega) rfl)

theorem dec2 (n : Nat) (h0 : 10 ≤ n) (h1 : n < 100) : Lib.decDigits n = [UInt8.ofNat (48 + n / 10), UInt8.ofNat (48 + n % 10)] := by
  rw [dec_big (by omega), dec_small (by omega)]; rfl
set_option maxRecDepth 100000 in
theorem reads2 (n : Nat) (h0 : 10 ≤ n) (h1 : n < 100) (rest : List UInt8) (hr : rest.length ≤ 1048600) (w : World) :
    Calls Tryf.prog 6 #[.string (full [UInt8.ofNat (48 + n / 10), UInt8.ofNat (48 + n % 10)] rest)] w fun e w' => e = .returned (.tuple #[.int .i64 n, .int .i64 10, .bool true]) ∧ w' = w :=
  (readNum2 (full [UInt8.ofNat (48 + n / 10), UInt8.ofNat (48 + n % 10)] rest) (48 + n / 10) (48 + n % 10) (by omega) (by omega) (by omega) (by omega) (by omega) (by simp [full, ByteArray.size]) (by simp [full, ByteArray.size]; omega) (full_head _ _) (fun h => ofNat_digit (n / 10) (by omega)) (fun h => ofNat_digit (n % 10) (by omega)) (fun h => rfl) (fun h => rfl) w).mono (tup3' (w' := w) (by omega) rfl)

theorem dec3 (n : Nat) (h0 : 100 ≤ n) (h1 : n < 1000) : Lib.decDigits n = [UInt8.ofNat (48 + n / 10 / 10), UInt8.ofNat (48 + (n / 10) % 10), UInt8.ofNat (48 + n % 10)] := by
  rw [dec_big (by omega), dec_big (by omega), dec_small (by omega)]; rfl
set_option maxRecDepth 100000 in
theorem reads3 (n : Nat) (h0 : 100 ≤ n) (h1 : n < 1000) (rest : List UInt8) (hr : rest.length ≤ 1048600) (w : World) :
    Calls Tryf.prog 6 #[.string (full [UInt8.ofNat (48 + n / 10 / 10), UInt8.ofNat (48 + (n / 10) % 10), UInt8.ofNat (48 + n % 10)] rest)] w fun e w' => e = .returned (.tuple #[.int .i64 n, .int .i64 11, .bool true]) ∧ w' = w :=
  (readNum3 (full [UInt8.ofNat (48 + n / 10 / 10), UInt8.ofNat (48 + (n / 10) % 10), UInt8.ofNat (48 + n % 10)] rest) (48 + n / 10 / 10) (48 + (n / 10) % 10) (48 + n % 10) (by omega) (by omega) (by omega) (by omega) (by omega) (by omega) (by omega) (by simp [full, ByteArray.size]) (by simp [full, ByteArray.size]; omega) (full_head _ _) (fun h => ofNat_digit (n / 10 / 10) (by omega)) (fun h => ofNat_digit ((n / 10) % 10) (by omega)) (fun h => ofNat_digit (n % 10) (by omega)) (fun h => rfl) (fun h => rfl) w).mono (tup3' (w' := w) (by omega) rfl)

theorem dec4 (n : Nat) (h0 : 1000 ≤ n) (h1 : n < 10000) : Lib.decDigits n = [UInt8.ofNat (48 + n / 10 / 10 / 10), UInt8.ofNat (48 + (n / 10 / 10) % 10), UInt8.ofNat (48 + (n / 10) % 10), UInt8.ofNat (48 + n % 10)] := by
  rw [dec_big (by omega), dec_big (by omega), dec_big (by omega), dec_small (by omega)]; rfl
set_option maxRecDepth 100000 in
theorem reads4 (n : Nat) (h0 : 1000 ≤ n) (h1 : n < 10000) (rest : List UInt8) (hr : rest.length ≤ 1048600) (w : World) :
    Calls Tryf.prog 6 #[.string (full [UInt8.ofNat (48 + n / 10 / 10 / 10), UInt8.ofNat (48 + (n / 10 / 10) % 10), UInt8.ofNat (48 + (n / 10) % 10), UInt8.ofNat (48 + n % 10)] rest)] w fun e w' => e = .returned (.tuple #[.int .i64 n, .int .i64 12, .bool true]) ∧ w' = w :=
  (readNum4 (full [UInt8.ofNat (48 + n / 10 / 10 / 10), UInt8.ofNat (48 + (n / 10 / 10) % 10), UInt8.ofNat (48 + (n / 10) % 10), UInt8.ofNat (48 + n % 10)] rest) (48 + n / 10 / 10 / 10) (48 + (n / 10 / 10) % 10) (48 + (n / 10) % 10) (48 + n % 10) (by omega) (by omega) (by omega) (by omega) (by omega) (by omega) (by omega) (by omega) (by omega) (by simp [full, ByteArray.size]) (by simp [full, ByteArray.size]; omega) (full_head _ _) (fun h => ofNat_digit (n / 10 / 10 / 10) (by omega)) (fun h => ofNat_digit ((n / 10 / 10) % 10) (by omega)) (fun h => ofNat_digit ((n / 10) % 10) (by omega)) (fun h => ofNat_digit (n % 10) (by omega)) (fun h => rfl) (fun h => rfl) w).mono (tup3' (w' := w) (by omega) rfl)

theorem dec5 (n : Nat) (h0 : 10000 ≤ n) (h1 : n ≤ 65535) : Lib.decDigits n = [UInt8.ofNat (48 + n / 10 / 10 / 10 / 10), UInt8.ofNat (48 + (n / 10 / 10 / 10) % 10), UInt8.ofNat (48 + (n / 10 / 10) % 10), UInt8.ofNat (48 + (n / 10) % 10), UInt8.ofNat (48 + n % 10)] := by
  rw [dec_big (by omega), dec_big (by omega), dec_big (by omega), dec_big (by omega), dec_small (by omega)]; rfl
set_option maxRecDepth 100000 in
theorem reads5 (n : Nat) (h0 : 10000 ≤ n) (h1 : n ≤ 65535) (rest : List UInt8) (hr : rest.length ≤ 1048600) (w : World) :
    Calls Tryf.prog 6 #[.string (full [UInt8.ofNat (48 + n / 10 / 10 / 10 / 10), UInt8.ofNat (48 + (n / 10 / 10 / 10) % 10), UInt8.ofNat (48 + (n / 10 / 10) % 10), UInt8.ofNat (48 + (n / 10) % 10), UInt8.ofNat (48 + n % 10)] rest)] w fun e w' => e = .returned (.tuple #[.int .i64 n, .int .i64 13, .bool true]) ∧ w' = w :=
  (readNum5 (full [UInt8.ofNat (48 + n / 10 / 10 / 10 / 10), UInt8.ofNat (48 + (n / 10 / 10 / 10) % 10), UInt8.ofNat (48 + (n / 10 / 10) % 10), UInt8.ofNat (48 + (n / 10) % 10), UInt8.ofNat (48 + n % 10)] rest) (48 + n / 10 / 10 / 10 / 10) (48 + (n / 10 / 10 / 10) % 10) (48 + (n / 10 / 10) % 10) (48 + (n / 10) % 10) (48 + n % 10) (by omega) (by omega) (by omega) (by omega) (by omega) (by omega) (by omega) (by omega) (by omega) (by omega) (by omega) (by simp [full, ByteArray.size]) (by simp [full, ByteArray.size]; omega) (full_head _ _) (fun h => ofNat_digit (n / 10 / 10 / 10 / 10) (by omega)) (fun h => ofNat_digit ((n / 10 / 10 / 10) % 10) (by omega)) (fun h => ofNat_digit ((n / 10 / 10) % 10) (by omega)) (fun h => ofNat_digit ((n / 10) % 10) (by omega)) (fun h => ofNat_digit (n % 10) (by omega)) (fun h => rfl) (fun h => rfl) w).mono (tup3' (w' := w) (by omega) rfl)

theorem read_any (n : Nat) (hn : n ≤ 65535) (rest : List UInt8) (hr : rest.length ≤ 1048600) (w : World) :
    Calls Tryf.prog 6 #[.string (full (Lib.itoa (n : Int)) rest)] w fun e w' => e = .returned (.tuple #[.int .i64 n, .int .i64 ((8 + (Lib.itoa (n : Int)).length : Nat) : Int), .bool true]) ∧ w' = w := by
  rw [itoa_nat]
  by_cases c1 : n < 10
  · rw [dec1 n c1]; exact reads1 n c1 rest hr w
  by_cases c2 : n < 100
  · rw [dec2 n (by omega) c2]; exact reads2 n (by omega) c2 rest hr w
  by_cases c3 : n < 1000
  · rw [dec3 n (by omega) c3]; exact reads3 n (by omega) c3 rest hr w
  by_cases c4 : n < 10000
  · rw [dec4 n (by omega) c4]; exact reads4 n (by omega) c4 rest hr w
  · rw [dec5 n (by omega) hn]; exact reads5 n (by omega) hn rest hr w

theorem itoa_short (n : Nat) (hn : n ≤ 65535) : (Lib.itoa (n : Int)).length ≤ 5 := by
  rw [itoa_nat]
  by_cases c1 : n < 10
  · rw [dec1 n c1]; simp
  by_cases c2 : n < 100
  · rw [dec2 n (by omega) c2]; simp
  by_cases c3 : n < 1000
  · rw [dec3 n (by omega) c3]; simp
  by_cases c4 : n < 10000
  · rw [dec4 n (by omega) c4]; simp
  · rw [dec5 n (by omega) hn]; simp

theorem full_size (D rest : List UInt8) : (full D rest).size = 8 + D.length + rest.length := by
  simp [full, ByteArray.size]; omega

theorem toList_mk (l : List UInt8) : (ByteArray.mk l.toArray).toList = l := by
  rw [ByteArray.toList_eq]

theorem full_tail (D : List UInt8) (st ms : ByteArray) :
    ((full D (st.data.toList ++ [41, 58, 32] ++ ms.data.toList)).extract (8 + D.length) (full D (st.data.toList ++ [41, 58, 32] ++ ms.data.toList)).size).toList = (st ++ { data := #[41, 58, 32] } ++ ms).toList := by
  have hz := full_size D (st.data.toList ++ [41, 58, 32] ++ ms.data.toList)
  generalize hr : st.data.toList ++ [41, 58, 32] ++ ms.data.toList = rest at hz ⊢
  rw [hz]
  unfold full
  rw [ByteArray.extract_mk, toList_mk]
  have e1 : ([101, 114, 114, 111, 114, 32] ++ D ++ [32, 40] ++ rest).drop (8 + D.length) = rest := by
    rw [List.drop_append_of_le_length (by simp; omega), List.drop_of_length_le (by simp; omega)]; rfl
  rw [e1, List.take_of_length_le (by omega), ← hr, ByteArray.toList_eq]
  simp [ByteArray.data_append]

theorem full_eq (m n : Nat) (rest : List UInt8) : (full (Lib.itoa (m : Int)) rest).toList = (full (Lib.itoa (n : Int)) rest).toList ↔ (m : Int) = (n : Int) := by
  constructor
  · intro h
    unfold full at h
    rw [toList_mk, toList_mk] at h
    have h1 := List.append_cancel_right h
    have h2 := List.append_cancel_right h1
    have h3 := List.append_cancel_left h2
    rw [itoa_inj h3]
  · intro h; rw [h]
end Go.Proofs.Qxb6605666aFmt
