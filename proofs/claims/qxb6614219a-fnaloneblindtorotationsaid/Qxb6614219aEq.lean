/-
  '==' and '!=' on identifiers.
-/
import Derived.Test.Qxb6614219aSub
import Derived.ChangeKeysEq
namespace Go.Proofs.Qxb6614219a
open Go.RowKit

theorem eqItems_bytes (d : Nat) (l m : List UInt8) (w : World) : ∀ is : List Nat, (∀ j ∈ is, j < l.length ∧ j < m.length) →
    (Op.eqItems (d + 1) 5 1 (Lib.byteCells l).toArray (Lib.byteCells m).toArray is).run Try.prog w = .ok (is.all fun j => decide (l.getD j 0 = m.getD j 0)) w
  | [], _ => by simp [Op.eqItems]
  | j :: is, h => by
    obtain ⟨h1, h2⟩ := h j (by simp)
    have hp : Try.prog.plainKey 5 = true := by kernel_rfl
    have p1 := run_part_plain (P := Try.prog) w hp (xs := (Lib.byteCells l).toArray) (off := j * 1) (v := .int .u8 (l.getD j 0).toNat) (by simp [Lib.byteCells, h1])
    have p2 := run_part_plain (P := Try.prog) w hp (xs := (Lib.byteCells m).toArray) (off := j * 1) (v := .int .u8 (m.getD j 0).toNat) (by simp [Lib.byteCells, h2])
    have p3 := run_equalIn_int (P := Try.prog) w d 5 .u8 .u8 (l.getD j 0).toNat (m.getD j 0).toNat Try.underlying5
    have ih := eqItems_bytes d l m w is (fun k hk => h k (by simp [hk]))
    simp only [Op.eqItems, Sem.run_bind, p1, p2, p3, Result.andThen_ok]
    have e : (((l.getD j 0).toNat : Int) == ((m.getD j 0).toNat : Int)) = decide (l.getD j 0 = m.getD j 0) := by
      rw [Bool.eq_iff_iff, beq_iff_eq, decide_eq_true_eq]
      exact ⟨fun h => UInt8.toNat_inj.1 (by omega), fun h => by rw [h]⟩
    rw [e]
    by_cases hd : l.getD j 0 = m.getD j 0
    · simp only [hd, decide_true, Bool.not_true, Bool.false_eq_true, if_false, ih, List.all_cons, Bool.true_and]
    · simp only [hd, decide_false, Bool.not_false, if_true, Sem.run_pure, List.all_cons, Bool.false_and]

theorem all_range (l m : List UInt8) (hl : l.length = 20) (hm : m.length = 20) : ((List.range 20).all fun j => decide (l.getD j 0 = m.getD j 0)) = decide (l = m) := by
  rw [Bool.eq_iff_iff]
  simp only [List.all_eq_true, List.mem_range, decide_eq_true_eq]
  constructor
  · intro h
    apply List.ext_getElem (by omega)
    intro i h1 h2
    have := h i (by omega)
    simpa [List.getD_eq_getElem?_getD, List.getElem?_eq_getElem h1, List.getElem?_eq_getElem h2] using this
  · rintro rfl j _; rfl

theorem info5' : ∃ i, Try.prog.info? 5 = some i := by
  have : (Try.prog.info? 5).isSome = true := by kernel_rfl
  exact Option.isSome_iff_exists.1 this
theorem cells5 : Try.prog.cellsOf 5 = 1 := by kernel_rfl

/-- '==' on identifiers, as the walk meets it. -/
theorem equal_ids (l m : List UInt8) (hl : l.length = 20) (hm : m.length = 20) (w : World) :
    (Op.equalIn 10000 25 (.agg (Lib.byteCells l).toArray) (.agg (Lib.byteCells m).toArray)).run Try.prog w = .ok (decide (l = m)) w := by
  obtain ⟨i, hi⟩ := info5'
  have h := run_equalIn_array (P := Try.prog) w 9999 (Lib.byteCells l).toArray (Lib.byteCells m).toArray Try.underlying25 hi
  rw [cells5, eqItems_bytes 9998 l m w (List.range 20) (fun j hj => by rw [hl, hm]; exact ⟨by simpa using hj, by simpa using hj⟩), all_range l m hl hm] at h
  exact h

theorem equal_num (A B : Nat) (hA : A < 1461501637330902918203684832716283019655932542976) (hB : B < 1461501637330902918203684832716283019655932542976) (w : World) :
    (Op.equalIn 10000 25 (.agg (idC A).toArray) (.agg (idC B).toArray)).run Try.prog w = .ok (decide (A = B)) w := by
  have h := equal_ids (Lib.beBytes 20 A) (Lib.beBytes 20 B) (Lib.beBytes_length _ _) (Lib.beBytes_length _ _) w
  have e : decide (Lib.beBytes 20 A = Lib.beBytes 20 B) = decide (A = B) := by
    rw [Bool.eq_iff_iff]
    simp only [decide_eq_true_eq]
    exact ⟨fun h => beBytes_inj (by rw [pow20]; exact hA) (by rw [pow20]; exact hB) h, fun h => by rw [h]⟩
  rw [e] at h
  exact h
end Go.Proofs.Qxb6614219a
