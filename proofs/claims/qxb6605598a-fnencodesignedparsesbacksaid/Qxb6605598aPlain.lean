/-
  PLAIN: the encoding can be read back: no Go in sight.
-/
import Derived.Test.Qxb6605598aEnc
namespace Go.Proofs.Qxb6605598a

theorem uvz_small {x : Nat} (h : x < 128) : uvz x = [(x : Int)] := by
  simp [uvz, Lib.uvarint_small h, Lib.toUInt8_toNat (show x < 256 by omega)]
theorem uvz_big {x : Nat} (h : 128 ≤ x) : uvz x = ((x % 128 + 128 : Nat) : Int) :: uvz (x / 128) := by
  simp only [uvz, Lib.uvarint_big h, List.map_cons, Lib.toUInt8_toNat (show x % 128 + 128 < 256 by omega)]

theorem uvz_inj : ∀ (a b : Nat) (r r' : List Int), uvz a ++ r = uvz b ++ r' → a = b ∧ r = r' := by
  intro a
  induction a using Nat.strongRecOn with
  | _ a ih =>
    intro b r r' h
    by_cases ha : a < 128
    · by_cases hb : b < 128
      · rw [uvz_small ha, uvz_small hb] at h
        simp only [List.singleton_append, List.cons.injEq] at h
        exact ⟨by omega, h.2⟩
      · rw [uvz_small ha, uvz_big (by omega)] at h
        simp only [List.cons_append, List.cons.injEq] at h
        omega
    · by_cases hb : b < 128
      · rw [uvz_big (by omega), uvz_small hb] at h
        simp only [List.cons_append, List.cons.injEq] at h
        omega
      · rw [uvz_big (show 128 ≤ a by omega), uvz_big (show 128 ≤ b by omega)] at h
        simp only [List.cons_append, List.cons.injEq] at h
        obtain ⟨h1, h2⟩ := ih (a / 128) (by omega) (b / 128) r r' h.2
        exact ⟨by omega, h2⟩

theorem fld_inj (t : Nat) (m m' r r' : List Int) (h : fld t m ++ r = fld t m' ++ r') : m = m' ∧ r = r' := by
  simp only [fld, List.append_assoc] at h
  have h1 := List.append_cancel_left h
  obtain ⟨hl, h2⟩ := uvz_inj _ _ _ _ h1
  exact List.append_inj h2 hl

theorem enc_inj (m s m' s' : List Int) : decide (enc m s = enc m' s') = (decide (m = m') && decide (s = s')) := by
  rw [Bool.eq_iff_iff]
  simp only [decide_eq_true_eq, Bool.and_eq_true]
  constructor
  · intro h
    obtain ⟨h1, h2⟩ := fld_inj 10 m m' (fld 18 s) (fld 18 s') h
    have h3 : fld 18 s ++ [] = fld 18 s' ++ [] := by simpa using h2
    exact ⟨h1, (fld_inj 18 s s' [] [] h3).1⟩
  · rintro ⟨rfl, rfl⟩; rfl

theorem enc_length (m s : List Int) : (enc m s).length = (1 + (Lib.uvarint m.length).length + m.length) + (1 + (Lib.uvarint s.length).length + s.length) := by
  have h10 : (uvz 10).length = 1 := by rw [uvz_small (by decide)]; rfl
  have h18 : (uvz 18).length = 1 := by rw [uvz_small (by decide)]; rfl
  simp only [enc, fld, List.length_append, h10, h18, uvz_length]
  omega
end Go.Proofs.Qxb6605598a
