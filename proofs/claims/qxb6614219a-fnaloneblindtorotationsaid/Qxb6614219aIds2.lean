/-
  'idWords.id', 'ID.sub', 'shiftedID' at shift 0, 'IDFromUint64', 'ZZsubID': a contract each.
-/
import Derived.Test.Qxb6614219aIds
import Derived.Deep.Upon
import Derived.Laws.CopyOwn
import Derived.Lib.BufferWrite
namespace Go.Proofs.Qxb6614219a
open Go.RowKit
set_option linter.unusedVariables false

/-- Cells laid into a block that is known whole. -/
theorem heap_setCells_same (g : Nat) (T : TypeId) : ∀ (vs A D E : List Value) (w : World), w.heap[g]? = some (.cells (A ++ D ++ E).toArray T (0, 0)) → D.length = vs.length →
    (w.setCells g A.length vs).heap[g]? = some (.cells (A ++ vs ++ E).toArray T (0, 0))
  | [], A, D, E, w, h, hl => by
    obtain rfl : D = [] := List.eq_nil_of_length_eq_zero hl
    exact h
  | v :: r, A, d :: D, E, w, h, hl => by
    have h1 := heap_setCell_same w g A.length _ T v h
    have e : (A ++ d :: D ++ E).toArray.setIfInBounds A.length v = ((A ++ [v]) ++ D ++ E).toArray := by simp
    rw [e] at h1
    have h2 := heap_setCells_same g T r (A ++ [v]) D E _ h1 (by simpa using hl)
    rw [List.length_append, List.length_singleton] at h2
    rw [World.setCells, h2]
    simp

theorem grown_setCells (g : Nat) : ∀ (vs : List Value) (o : Nat) (w : World), w.grownBy (w.setCells g o vs) (some g)
  | [], _, w => World.grownBy.refl w _
  | v :: r, o, w => by
    have h := grown_setCells g r (o + 1) (w.setCell ⟨g, o, none⟩ v)
    have hs : (w.setCell ⟨g, o, none⟩ v).heap.size = w.heap.size := by simp
    exact ⟨h.os, h.tape, h.output, by have := h.size; rw [hs] at this; exact this, fun k hk hne => (h.block k (by rw [hs]; exact hk) hne).trans (Below.heap_setCell w ⟨g, o, none⟩ v k (fun e => hne (by rw [e])))⟩

theorem grown_trans' {w w1 w2 : World} {r : Option Nat} (h : w.grownBy w1 r) (k : w1.grownBy w2 r) : w.grownBy w2 r :=
  ⟨k.os.trans h.os, k.tape.trans h.tape, k.output.trans h.output, Nat.le_trans h.size k.size, fun b hb hne => (k.block b (Nat.lt_of_lt_of_le hb h.size) hne).trans (h.block b hb hne)⟩

theorem lt_of_some {w : World} {g : Nat} {o : Obj} (h : w.heap[g]? = some o) : g < w.heap.size := by
  rcases Nat.lt_or_ge g w.heap.size with hg | hg
  · exact hg
  · simp [Array.getElem?_eq_none hg] at h

theorem put_world (g : Nat) (A D E V : List UInt8) (w : World) (h : w.heap[g]? = some (.cells (Lib.byteCells (A ++ D ++ E)).toArray 25 (0, 0))) (hD : D.length = V.length) :
    ((w.alloc (.cells #[] 115)).setCells g A.length (Lib.byteCells V)).heap[g]? = some (.cells (Lib.byteCells (A ++ V ++ E)).toArray 25 (0, 0)) ∧ w.grownBy ((w.alloc (.cells #[] 115)).setCells g A.length (Lib.byteCells V)) (some g) := by
  constructor
  · have h1 : (w.alloc (.cells #[] 115)).heap[g]? = some (.cells (Lib.byteCells A ++ Lib.byteCells D ++ Lib.byteCells E).toArray 25 (0, 0)) := by
      rw [Below.heap_alloc _ _ _ (lt_of_some h), h, Lib.byteCells_append, Lib.byteCells_append]
    have h2 := heap_setCells_same g 25 (Lib.byteCells V) _ _ _ _ h1 (by simp [Lib.byteCells_length, hD])
    rw [Lib.byteCells_length] at h2
    rw [h2, Lib.byteCells_append, Lib.byteCells_append]
  · exact grown_trans' (World.grownBy_alloc w _ _) (grown_setCells g _ _ _)

theorem free_of {w : World} {g : Nat} {C : Array Value} {T : TypeId} (h : w.heap[g]? = some (.cells C T (0, 0))) (j : Nat) : w.frozen? ⟨g, j, none⟩ = false := by
  simp [World.frozen?, h]

theorem put32 (g c v : Nat) (hv : v < 4294967296) (D E : List UInt8) (w : World) (hD : D.length = 4) (h : w.heap[g]? = some (.cells (Lib.byteCells (D ++ E)).toArray 25 (0, 0))) :
    Calls Try.prog 47 #[.agg #[], .slice (some ⟨g, 0, none⟩) 4 c, .int .u32 v] w fun e w' => e = .returned (.tuple #[]) ∧
      w'.heap[g]? = some (.cells (Lib.byteCells (Lib.beBytes 4 v ++ E)).toArray 25 (0, 0)) ∧ w.grownBy w' (some g) := by
  have hc := fun j hj => bytes_cell h j hj
  have hl : ∀ j, j < 4 → j < (D ++ E).length := fun j hj => by simp; omega
  refine (Try.binary_BE_PutUint32 g 0 4 c v hv _ _ _ _ w (Nat.le_refl _) (hc 0 (hl 0 (by decide))) (hc 1 (hl 1 (by decide))) (hc 2 (hl 2 (by decide))) (hc 3 (hl 3 (by decide))) (free_of h _) (free_of h _) (free_of h _) (free_of h _)).mono ?_
  rintro e w' ⟨rfl, rfl⟩
  have := put_world g [] D E (Lib.beBytes 4 v) w (by simpa using h) (by rw [hD, Lib.beBytes_length])
  exact ⟨rfl, by simpa using this.1, by simpa using this.2⟩

theorem put64 (g c v : Nat) (hv : v < 18446744073709551616) (A D E : List UInt8) (o : Nat) (ho : A.length = o) (w : World) (hD : D.length = 8) (h : w.heap[g]? = some (.cells (Lib.byteCells (A ++ D ++ E)).toArray 25 (0, 0))) :
    Calls Try.prog 48 #[.agg #[], .slice (some ⟨g, o, none⟩) 8 c, .int .u64 v] w fun e w' => e = .returned (.tuple #[]) ∧
      w'.heap[g]? = some (.cells (Lib.byteCells (A ++ Lib.beBytes 8 v ++ E)).toArray 25 (0, 0)) ∧ w.grownBy w' (some g) := by
  subst ho
  have hc := fun j hj => bytes_cell h j hj
  have hl : ∀ j, j < 8 → A.length + j < (A ++ D ++ E).length := fun j hj => by simp; omega
  refine (Try.binary_BE_PutUint64 g A.length 8 c v hv _ _ _ _ _ _ _ _ w (Nat.le_refl _) (hc A.length (hl 0 (by decide))) (hc _ (hl 1 (by decide))) (hc _ (hl 2 (by decide))) (hc _ (hl 3 (by decide))) (hc _ (hl 4 (by decide))) (hc _ (hl 5 (by decide))) (hc _ (hl 6 (by decide))) (hc _ (hl 7 (by decide)))
    (free_of h _) (free_of h _) (free_of h _) (free_of h _) (free_of h _) (free_of h _) (free_of h _) (free_of h _)).mono ?_
  rintro e w' ⟨rfl, rfl⟩
  exact ⟨rfl, put_world g A D E (Lib.beBytes 8 v) w h (by rw [hD, Lib.beBytes_length])⟩

/-- The zero identifier's cells. -/
def zeroC : Array Value := (Lib.byteCells (List.replicate 20 0)).toArray

/-- A cell of a block that an append or a store to another block leaves. -/
theorem grown_block {w w' : World} {g k : Nat} {o : Obj} (h : w.grownBy w' (some g)) (hk : w.heap[k]? = some o) (hne : k ≠ g) : w'.heap[k]? = some o :=
  (h.block k (lt_of_some hk) (by simpa using hne)).trans hk

set_option maxHeartbeats 1000000 in
set_option maxRecDepth 100000 in
theorem id_any (hi mid lo : Nat) (h1 : hi < 4294967296) (h2 : mid < 18446744073709551616) (h3 : lo < 18446744073709551616) (w : World) :
    Calls Try.prog 38 #[.agg #[.int .u32 hi, .int .u64 mid, .int .u64 lo]] w fun e w' =>
      e = .returned (.agg (Lib.byteCells (Lib.beBytes 4 hi ++ Lib.beBytes 8 mid ++ Lib.beBytes 8 lo)).toArray) ∧ Below w.heap.size w w' := by
  obtain ⟨W0, hW0⟩ : ∃ W0, W0 = (((w.alloc (Obj.cells #[Value.int IntKind.u32 hi, Value.int IntKind.u64 mid, Value.int IntKind.u64 lo] 108)).alloc (Obj.cells #[Value.int IntKind.u8 0, Value.int IntKind.u8 0, Value.int IntKind.u8 0, Value.int IntKind.u8 0, Value.int IntKind.u8 0, Value.int IntKind.u8 0, Value.int IntKind.u8 0, Value.int IntKind.u8 0, Value.int IntKind.u8 0, Value.int IntKind.u8 0, Value.int IntKind.u8 0, Value.int IntKind.u8 0, Value.int IntKind.u8 0, Value.int IntKind.u8 0, Value.int IntKind.u8 0, Value.int IntKind.u8 0, Value.int IntKind.u8 0, Value.int IntKind.u8 0, Value.int IntKind.u8 0, Value.int IntKind.u8 0] 25)).alloc (Obj.cells #[Value.int IntKind.u8 0, Value.int IntKind.u8 0, Value.int IntKind.u8 0, Value.int IntKind.u8 0, Value.int IntKind.u8 0, Value.int IntKind.u8 0, Value.int IntKind.u8 0, Value.int IntKind.u8 0, Value.int IntKind.u8 0, Value.int IntKind.u8 0, Value.int IntKind.u8 0, Value.int IntKind.u8 0, Value.int IntKind.u8 0, Value.int IntKind.u8 0, Value.int IntKind.u8 0, Value.int IntKind.u8 0, Value.int IntKind.u8 0, Value.int IntKind.u8 0, Value.int IntKind.u8 0, Value.int IntKind.u8 0] 25)) := ⟨_, rfl⟩
  have bw : Below w.heap.size w W0 := by rw [hW0]; exact (((Below.refl _ _).alloc (Nat.le_refl _) _).alloc (by simp) _).alloc (by simp; omega) _
  have zl : #[Value.int IntKind.u8 0, Value.int IntKind.u8 0, Value.int IntKind.u8 0, Value.int IntKind.u8 0, Value.int IntKind.u8 0, Value.int IntKind.u8 0, Value.int IntKind.u8 0, Value.int IntKind.u8 0, Value.int IntKind.u8 0, Value.int IntKind.u8 0, Value.int IntKind.u8 0, Value.int IntKind.u8 0, Value.int IntKind.u8 0, Value.int IntKind.u8 0, Value.int IntKind.u8 0, Value.int IntKind.u8 0, Value.int IntKind.u8 0, Value.int IntKind.u8 0, Value.int IntKind.u8 0, Value.int IntKind.u8 0] = (Lib.byteCells (List.replicate 20 0)).toArray := rfl
  have g0 : W0.heap[w.heap.size]? = some (.cells #[Value.int IntKind.u32 hi, Value.int IntKind.u64 mid, Value.int IntKind.u64 lo] 108 (0, 0)) := by
    rw [hW0, Below.heap_alloc _ _ _ (by simp; omega), Below.heap_alloc _ _ _ (by simp)]; exact heap_alloc_new w _
  have g1 : W0.heap[w.heap.size + 1]? = some (.cells (Lib.byteCells (List.replicate 20 0)).toArray 25 (0, 0)) := by
    rw [hW0, Below.heap_alloc _ _ _ (by simp), zl]
    have := heap_alloc_new (w.alloc (Obj.cells #[Value.int IntKind.u32 hi, Value.int IntKind.u64 mid, Value.int IntKind.u64 lo] 108)) (Obj.cells (Lib.byteCells (List.replicate 20 0)).toArray 25)
    simpa using this
  have g2 : W0.heap[w.heap.size + 1 + 1]? = some (.cells (Lib.byteCells (List.replicate 4 0 ++ List.replicate 16 0)).toArray 25 (0, 0)) := by
    rw [hW0, zl]
    have := heap_alloc_new ((w.alloc (Obj.cells #[Value.int IntKind.u32 hi, Value.int IntKind.u64 mid, Value.int IntKind.u64 lo] 108)).alloc (Obj.cells (Lib.byteCells (List.replicate 20 0)).toArray 25)) (Obj.cells (Lib.byteCells (List.replicate 4 0 ++ List.replicate 16 0)).toArray 25)
    simpa using this
  have HW : Hid (W0 = (((w.alloc (Obj.cells #[Value.int IntKind.u32 hi, Value.int IntKind.u64 mid, Value.int IntKind.u64 lo] 108)).alloc (Obj.cells #[Value.int IntKind.u8 0, Value.int IntKind.u8 0, Value.int IntKind.u8 0, Value.int IntKind.u8 0, Value.int IntKind.u8 0, Value.int IntKind.u8 0, Value.int IntKind.u8 0, Value.int IntKind.u8 0, Value.int IntKind.u8 0, Value.int IntKind.u8 0, Value.int IntKind.u8 0, Value.int IntKind.u8 0, Value.int IntKind.u8 0, Value.int IntKind.u8 0, Value.int IntKind.u8 0, Value.int IntKind.u8 0, Value.int IntKind.u8 0, Value.int IntKind.u8 0, Value.int IntKind.u8 0, Value.int IntKind.u8 0] 25)).alloc (Obj.cells #[Value.int IntKind.u8 0, Value.int IntKind.u8 0, Value.int IntKind.u8 0, Value.int IntKind.u8 0, Value.int IntKind.u8 0, Value.int IntKind.u8 0, Value.int IntKind.u8 0, Value.int IntKind.u8 0, Value.int IntKind.u8 0, Value.int IntKind.u8 0, Value.int IntKind.u8 0, Value.int IntKind.u8 0, Value.int IntKind.u8 0, Value.int IntKind.u8 0, Value.int IntKind.u8 0, Value.int IntKind.u8 0, Value.int IntKind.u8 0, Value.int IntKind.u8 0, Value.int IntKind.u8 0, Value.int IntKind.u8 0] 25))) := hW0
  clear hW0 zl
  have G0 : Hid _ := g0
  have G1 : Hid _ := g1
  have G2 : Hid _ := g2
  clear g0 g1 g2
  have x0 : W0.cell? ⟨w.heap.size, 0, none⟩ = some (.int .u32 hi) := by simp [World.cell?, G0.out]
  go_enter Try.func38, Try.ntmps38
  go_wp2
  rw [← HW.out]
  go_region_held3 (fun w' => w'.cell? (Addr.mk w.heap.size 0 none) = some (.int .u32 hi)) (first | exact x0 | exact x1) ((go_at_call 47; refine (put32 (w.heap.size + 1 + 1) 20 hi h1 (List.replicate 4 0) (List.replicate 16 0) W0.drew rfl G2.out).mono ?_; rintro e w1 ⟨rfl, p1, q1⟩; have P1 : Hid _ := p1; have Q1 : Hid (W0.grownBy w1 (some (w.heap.size + 1 + 1))) := ⟨q1.os, q1.tape, q1.output, q1.size, q1.block⟩; clear p1 q1; have x1 : w1.cell? (Addr.mk w.heap.size 0 none) = some (.int .u32 hi) := (Q1.out.cell x0 (by simp; omega))))
  have y0 : w1.cell? ⟨w.heap.size, 1, none⟩ = some (.int .u64 mid) := by simp [World.cell?, grown_block Q1.out G0.out (by omega)]
  clear x0 x1
  go_wp2
  go_region_held3 (fun w' => w'.cell? (Addr.mk w.heap.size 1 none) = some (.int .u64 mid)) (first | exact y0 | exact y1) ((go_at_call 48; refine (put64 (w.heap.size + 1 + 1) 16 mid h2 (Lib.beBytes 4 hi) (List.replicate 8 0) (List.replicate 8 0) 4 (Lib.beBytes_length _ _) w1.drew rfl (show w1.heap[w.heap.size + 1 + 1]? = some (.cells (Lib.byteCells (Lib.beBytes 4 hi ++ List.replicate 8 0 ++ List.replicate 8 0)).toArray 25 (0, 0)) by simpa using P1.out)).mono ?_; rintro e w2 ⟨rfl, p1, q1⟩; have P2 : Hid _ := p1; have Q2 : Hid (W0.grownBy w2 (some (w.heap.size + 1 + 1))) := grown_trans' Q1.out ⟨q1.os, q1.tape, q1.output, q1.size, q1.block⟩; clear p1 q1; have y1 : w2.cell? (Addr.mk w.heap.size 1 none) = some (.int .u64 mid) := by simp [World.cell?, grown_block Q2.out G0.out (show w.heap.size ≠ w.heap.size + 1 + 1 by omega)]))
  have z0 : w2.cell? ⟨w.heap.size, 2, none⟩ = some (.int .u64 lo) := by simp [World.cell?, grown_block Q2.out G0.out (show w.heap.size ≠ w.heap.size + 1 + 1 by omega)]
  clear y0 y1
  go_wp2
  go_region_held3 (fun w' => w'.cell? (Addr.mk w.heap.size 2 none) = some (.int .u64 lo)) (first | exact z0 | exact z1) ((go_at_call 48; refine (put64 (w.heap.size + 1 + 1) 8 lo h3 (Lib.beBytes 4 hi ++ Lib.beBytes 8 mid) (List.replicate 8 0) [] 12 (by rw [List.length_append, Lib.beBytes_length, Lib.beBytes_length]) w2.drew rfl (show w2.heap[w.heap.size + 1 + 1]? = some (.cells (Lib.byteCells (Lib.beBytes 4 hi ++ Lib.beBytes 8 mid ++ List.replicate 8 0 ++ [])).toArray 25 (0, 0)) by simpa using P2.out)).mono ?_; rintro e w3 ⟨rfl, p1, q1⟩; have P3 : Hid _ := p1; have Q3 : Hid (W0.grownBy w3 (some (w.heap.size + 1 + 1))) := grown_trans' Q2.out ⟨q1.os, q1.tape, q1.output, q1.size, q1.block⟩; clear p1 q1; have z1 : w3.cell? (Addr.mk w.heap.size 2 none) = some (.int .u64 lo) := by simp [World.cell?, grown_block Q3.out G0.out (show w.heap.size ≠ w.heap.size + 1 + 1 by omega)]))
  clear z0 z1
  have hl : (Lib.byteCells (Lib.beBytes 4 hi ++ Lib.beBytes 8 mid ++ Lib.beBytes 8 lo)).length = 20 := by
    simp only [Lib.byteCells_length, List.length_append, Lib.beBytes_length]
  have p4 := P3.out
  rw [List.append_nil] at p4
  have p5 := grown_block Q3.out G1.out (show w.heap.size + 1 ≠ w.heap.size + 1 + 1 by omega)
  have h1c := all_oneCell_toArray (Lib.byteCells_one (Lib.beBytes 4 hi ++ Lib.beBytes 8 mid ++ Lib.beBytes 8 lo))
  have hz : (Lib.byteCells (List.replicate 20 0)).toArray.size = 20 := rfl
  have hz2 : (Lib.byteCells (Lib.beBytes 4 hi ++ Lib.beBytes 8 mid ++ Lib.beBytes 8 lo)).toArray.size = 20 := by simpa using hl
  obtain ⟨C, hC⟩ : ∃ C, C = (Lib.byteCells (Lib.beBytes 4 hi ++ Lib.beBytes 8 mid ++ Lib.beBytes 8 lo)).toArray := ⟨_, rfl⟩
  obtain ⟨Z, hZ⟩ : ∃ Z, Z = (Lib.byteCells (List.replicate 20 0)).toArray := ⟨_, rfl⟩
  rw [← hC] at p4 h1c hz2
  rw [← hZ] at p5 hz
  have HC : Hid _ := hC
  clear hC hZ
  have P4 : Hid _ := p4
  have P5 : Hid _ := p5
  have hi25 : (Try.prog.info? 25).map (·.size) = some C.size := by rw [hz2]; kernel_rfl
  have HI : Hid _ := hi25
  have hzz : Z.size = C.size := by rw [hz, hz2]
  have HZ : Hid _ := hzz
  clear p4 p5 hi25 hzz hz hz2 hl
  go_wp2_with (first
    | (refine wpList_load_row rfl 25 (.tmp 3) rfl (w.heap.size + 1 + 1) rfl 25 C (0, 0) _ P4.out Try.underlying25 rfl HI.out ?_)
    | (refine wpList_store_row rfl 25 (.tmp 2) (.tmp 19) rfl (w.heap.size + 1) C rfl rfl 25 Z P5.out HI.out HZ.out h1c ?_))
  refine bodyPost_ret (v := .agg C) ?_ rfl ⟨by rw [HC.out], ?_⟩
  · exact results_cell_row Try.results38 _ _ (w.heap.size + 1) 25 C (0, 0) _ rfl (setRow_heap _ _ _ _ _ _ P5.out) Try.underlying25 rfl HI.out
  · exact below_setRow (bw.grown Q3.out bw.size (fun k hk => by cases hk; omega)) (by omega) _
end Go.Proofs.Qxb6614219a
