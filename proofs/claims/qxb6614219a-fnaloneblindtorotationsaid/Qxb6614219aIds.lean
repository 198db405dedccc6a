/-
  IDENTIFIERS: 'idWords.minus', 'idWords.id', 'ID.words', 'ID.sub', 'shiftedID', 'IDFromUint64': a contract each.
-/
import Derived.Test.Qxb6614219aRows
import Derived.Test.Qxb6614219aShelf
import Derived.Shelf.Spec.BitsCarry
import Derived.WalkKit
import Derived.WalkSpells
import Derived.WalkLawsBesides
import Derived.BigCall
import Derived.RegionTactic
import Derived.Deep.RegionWith
import Derived.Deep.RegionHeld3
import Derived.Deep.QuietTactic
import Derived.BigQuiet
import Derived.Lib.EndianMore
import Derived.Deep.DeepFit
namespace Go.Proofs.Qxb6614219a
open Go.RowKit
set_option linter.unusedVariables false

/-! ### math/bits.Sub64: the model's own entry -/
theorem sub64_nat (x y b : Nat) (hb : b ≤ 1) (w : World) :
    (callFunc 46 #[.int .u64 x, .int .u64 y, .int .u64 b]).run Try.prog w =
      .ok (.value (.tuple #[.int .u64 (((x + 18446744073709551616 - y - b) % 18446744073709551616 : Nat) : Int), .int .u64 ((if x < y + b then 1 else 0 : Nat) : Int)])) w := by
  rw [run_callFunc_extern Try.func46 (by kernel_rfl) (by kernel_rfl) (by kernel_rfl) (e := sub64Entry) (by kernel_rfl), run_sub64 x y b hb]
  rfl

/-- The borrow, under a name. -/
def bor (x y : Int) : Int := if x < y then 1 else 0
theorem bor_01 (x y : Int) : 0 ≤ bor x y ∧ bor x y ≤ 1 := by unfold bor; split <;> omega

theorem sub64 (x y b : Int) (hx : 0 ≤ x) (hy : 0 ≤ y) (hy' : y < 18446744073709551616) (hb0 : 0 ≤ b) (hb : b ≤ 1) (w : World) : (callFunc 46 #[.int .u64 x, .int .u64 y, .int .u64 b]).run Try.prog w =
    .ok (.value (.tuple #[.int .u64 ((x - y - b) % 18446744073709551616), .int .u64 (bor x (y + b))])) w := by
  obtain ⟨x, rfl⟩ := Int.eq_ofNat_of_zero_le hx
  obtain ⟨y, rfl⟩ := Int.eq_ofNat_of_zero_le hy
  obtain ⟨b, rfl⟩ := Int.eq_ofNat_of_zero_le hb0
  have e1 : (((x + 18446744073709551616 - y - b) % 18446744073709551616 : Nat) : Int) = ((x : Int) - y - b) % 18446744073709551616 := by omega
  have e2 : ((if x < y + b then 1 else 0 : Nat) : Int) = bor (x : Int) (y + b) := by unfold bor; split <;> split <;> omega
  rw [← e1, ← e2]
  exact sub64_nat x y b (by omega) w
theorem sub64_0 (x y : Int) (hx : 0 ≤ x) (hy : 0 ≤ y) (hy' : y < 18446744073709551616) (w : World) : (callFunc 46 #[.int .u64 x, .int .u64 y, .int .u64 0]).run Try.prog w =
    .ok (.value (.tuple #[.int .u64 ((x - y) % 18446744073709551616), .int .u64 (bor x y)])) w := by
  simpa using sub64 x y 0 hx hy hy' (Int.le_refl 0) (by decide) w

set_option maxHeartbeats 1000000 in
set_option maxRecDepth 100000 in
theorem minus_any (ah am al bh bm bl : Int) (h1 : 0 ≤ ah) (h1' : ah < 4294967296) (h2 : 0 ≤ am) (h2' : am < 18446744073709551616) (h3 : 0 ≤ al) (h3' : al < 18446744073709551616)
    (k1 : 0 ≤ bh) (k1' : bh < 4294967296) (k2 : 0 ≤ bm) (k2' : bm < 18446744073709551616) (k3 : 0 ≤ bl) (k3' : bl < 18446744073709551616) (w : World) :
    Calls Try.prog 37 #[.agg #[.int .u32 ah, .int .u64 am, .int .u64 al], .agg #[.int .u32 bh, .int .u64 bm, .int .u64 bl]] w fun e w' =>
      e = .returned (.agg #[.int .u32 ((ah - bh - bor am (bm + bor al bl)) % 4294967296), .int .u64 ((am - bm - bor al bl) % 18446744073709551616), .int .u64 ((al - bl) % 18446744073709551616)]) ∧ Below w.heap.size w w' := by
  obtain ⟨c1, c1'⟩ := bor_01 al bl
  obtain ⟨c2, c2'⟩ := bor_01 am (bm + bor al bl)
  go_enter Try.func37, Try.ntmps37
  go_wp2_with (first | simp only [sub64_0 al bl h3 k3 k3'] | simp only [sub64 am bm _ h2 k2 k2' c1 c1'])
  simp only [bodyPost, results, Try.results37]
  simp [go_sem]
  exact (((Below.refl _ _).alloc (Nat.le_refl _) _).alloc (by simp) _).alloc (by simp; omega) _

/-! ### ID.words -/
theorem bytes_cell {w : World} {B T : Nat} {l : List UInt8} (h : w.heap[B]? = some (.cells (Lib.byteCells l).toArray T (0, 0))) (j : Nat) (hj : j < l.length) : w.cell? ⟨B, j, none⟩ = some (.int .u8 (l.getD j 0).toNat) := by
  simp [World.cell?, h, Lib.byteCells, hj]

theorem rd32 (B : Nat) (c : Nat) (l : List UInt8) (w : World) (hl : l.length = 20) (h : w.heap[B]? = some (.cells (Lib.byteCells l).toArray 25 (0, 0))) :
    Calls Try.prog 44 #[.agg #[], .slice (some ⟨B, 0, none⟩) 4 c] w fun e w' => e = .returned (.int .u32 (Lib.beNat (l.take 4))) ∧ Below w.heap.size w w' := by
  obtain ⟨b0, b1, b2, b3, r, rfl⟩ : ∃ b0 b1 b2 b3 r, l = b0 :: b1 :: b2 :: b3 :: r := by
    match l, hl with
    | b0 :: b1 :: b2 :: b3 :: r, _ => exact ⟨b0, b1, b2, b3, r, rfl⟩
  exact Try.binary_BE_Uint32 B 0 4 c b0 b1 b2 b3 w (Nat.le_refl _) (by simpa using bytes_cell h 0 (by simp)) (by simpa using bytes_cell h 1 (by simp)) (by simpa using bytes_cell h 2 (by simp)) (by simpa using bytes_cell h 3 (by simp))

set_option linter.unusedSimpArgs false in
theorem rd64 (B o : Nat) (c : Nat) (l : List UInt8) (w : World) (ho : o + 8 ≤ l.length) (h : w.heap[B]? = some (.cells (Lib.byteCells l).toArray 25 (0, 0))) :
    Calls Try.prog 45 #[.agg #[], .slice (some ⟨B, o, none⟩) 8 c] w fun e w' => e = .returned (.int .u64 (Lib.beNat ((l.drop o).take 8))) ∧ Below w.heap.size w w' := by
  have g : ∀ k, k < 8 → o + k < l.length := fun k hk => by omega
  have g0 : o < l.length := by omega
  have hd : (l.drop o).take 8 = [l.getD o 0, l.getD (o + 1) 0, l.getD (o + 2) 0, l.getD (o + 3) 0, l.getD (o + 4) 0, l.getD (o + 5) 0, l.getD (o + 6) 0, l.getD (o + 7) 0] := by
    apply List.ext_getElem
    · simp; omega
    · intro i h1 h2
      simp at h2
      have : i = 0 ∨ i = 1 ∨ i = 2 ∨ i = 3 ∨ i = 4 ∨ i = 5 ∨ i = 6 ∨ i = 7 := by omega
      rcases this with rfl | rfl | rfl | rfl | rfl | rfl | rfl | rfl <;> simp [List.getElem?_eq_getElem, g _ (show 0 < 8 by decide), g _ (show 1 < 8 by decide), g _ (show 2 < 8 by decide), g _ (show 3 < 8 by decide), g _ (show 4 < 8 by decide), g _ (show 5 < 8 by decide), g _ (show 6 < 8 by decide), g _ (show 7 < 8 by decide), g0]
  rw [hd]
  exact Try.binary_BE_Uint64 B o 8 c _ _ _ _ _ _ _ _ w (Nat.le_refl _) (bytes_cell h _ (by omega)) (bytes_cell h _ (by omega)) (bytes_cell h _ (by omega)) (bytes_cell h _ (by omega)) (bytes_cell h _ (by omega)) (bytes_cell h _ (by omega)) (bytes_cell h _ (by omega)) (bytes_cell h _ (by omega))

/-- An identifier as a value. -/
def idv (l : List UInt8) : Value := .agg (Lib.byteCells l).toArray

set_option maxHeartbeats 1000000 in
set_option maxRecDepth 100000 in
theorem words_any (l : List UInt8) (hl : l.length = 20) (w : World) :
    Calls Try.prog 36 #[.agg (Lib.byteCells l).toArray] w fun e w' =>
      e = .returned (.agg #[.int .u32 (Lib.beNat (l.take 4)), .int .u64 (Lib.beNat ((l.drop 4).take 8)), .int .u64 (Lib.beNat ((l.drop 12).take 8))]) ∧ Below w.heap.size w w' := by
  obtain ⟨C, hC⟩ : ∃ C, C = (Lib.byteCells l).toArray := ⟨_, rfl⟩
  rw [← hC]
  have HC : Hid (C = (Lib.byteCells l).toArray) := hC
  clear hC
  -- the box, in whatever world keeps it
  obtain ⟨W0, hW0⟩ : ∃ W0, W0 = ((w.alloc (Obj.cells C 25)).alloc (Obj.cells #[Value.int IntKind.u32 0, Value.int IntKind.u64 0, Value.int IntKind.u64 0] 108)) := ⟨_, rfl⟩
  have sz0 : W0.heap.size = w.heap.size + 2 := by rw [hW0]; simp
  have c0 : W0.heap[w.heap.size]? = some (.cells (Lib.byteCells l).toArray 25 (0, 0)) := by
    rw [hW0, HC.out, Below.heap_alloc _ _ _ (by simp)]; exact heap_alloc_new w _
  have c1 : W0.heap[w.heap.size + 1]? = some (.cells #[Value.int IntKind.u32 0, Value.int IntKind.u64 0, Value.int IntKind.u64 0] 108 (0, 0)) := by
    rw [hW0]
    have := heap_alloc_new (w.alloc (Obj.cells C 25)) (Obj.cells #[Value.int IntKind.u32 0, Value.int IntKind.u64 0, Value.int IntKind.u64 0] 108)
    simpa using this
  have bw : Below w.heap.size w W0 := by rw [hW0]; exact ((Below.refl _ _).alloc (Nat.le_refl _) _).alloc (by simp) _
  have kc : ∀ w', Below W0.heap.size W0 w' → w'.heap[w.heap.size]? = some (.cells (Lib.byteCells l).toArray 25 (0, 0)) := fun w' h => (h.block _ (by omega)).trans c0
  have kd : Hid (∀ w', Below W0.heap.size W0 w' → w'.cell? ⟨w.heap.size + 1, 0, none⟩ = some (.int .u32 0) ∧ w'.cell? ⟨w.heap.size + 1, 1, none⟩ = some (.int .u64 0) ∧ w'.cell? ⟨w.heap.size + 1, 2, none⟩ = some (.int .u64 0) ∧
      w'.frozen? ⟨w.heap.size + 1, 0, none⟩ = false ∧ w'.frozen? ⟨w.heap.size + 1, 1, none⟩ = false ∧ w'.frozen? ⟨w.heap.size + 1, 2, none⟩ = false) := fun w' h => by
    have e := (h.block (w.heap.size + 1) (by omega)).trans c1
    simp [World.cell?, World.frozen?, e]
  have KC : Hid (∀ w', Below W0.heap.size W0 w' → w'.heap[w.heap.size]? = some (.cells (Lib.byteCells l).toArray 25 (0, 0))) := kc
  clear kc c0 c1
  have HW : Hid (W0 = ((w.alloc (Obj.cells C 25)).alloc (Obj.cells #[Value.int IntKind.u32 0, Value.int IntKind.u64 0, Value.int IntKind.u64 0] 108))) := hW0
  clear hW0
  go_enter Try.func36, Try.ntmps36
  go_wp2
  rw [← HW.out]
  go_region_held3 (fun _ => True) (trivial) (first
    | (go_at_call 44; refine (rd32 w.heap.size 20 l _ hl (KC.out _ (Below.refl _ W0).drew)).mono ?_; rintro e w2 ⟨rfl, hb2⟩; have hb2 : Below W0.heap.size W0 w2 := (Below.refl _ W0).drew.trans hb2)
    | (go_at_call_of 45 (Value.slice (some (Addr.mk w.heap.size 4 none)) 8 16); refine (rd64 w.heap.size 4 16 l _ (by omega) (KC.out _ hb2)).mono ?_; rintro e w3 ⟨rfl, hb3⟩; have hb3 : Below W0.heap.size W0 w3 := hb2.trans (hb3.mono hb2.size))
    | (go_at_call_of 45 (Value.slice (some (Addr.mk w.heap.size 12 none)) 8 8); refine (rd64 w.heap.size 12 8 l _ (by omega) (KC.out _ hb3)).mono ?_; rintro e w4 ⟨rfl, hb4⟩; have hb4 : Below W0.heap.size W0 w4 := hb3.trans (hb4.mono hb3.size); obtain ⟨x0, x1, x2, f0, f1, f2⟩ := kd.out _ hb4))
  go_wp2
  refine bodyPost_ret (v := .agg #[.int .u32 (Lib.beNat (l.take 4)), .int .u64 (Lib.beNat ((l.drop 4).take 8)), .int .u64 (Lib.beNat ((l.drop 12).take 8))]) ?_ rfl ⟨rfl, ?_⟩
  · simp [results, Try.results36, go_sem, x0, x1, x2]
  · exact (((bw.trans (hb4.mono bw.size)).setCell (by simp) _).setCell (by simp) _).setCell (by simp) _

end Go.Proofs.Qxb6614219a
