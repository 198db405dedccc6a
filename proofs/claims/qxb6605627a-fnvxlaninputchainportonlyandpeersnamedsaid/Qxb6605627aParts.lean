/-
  'NewParts', 'NATOutgoingParts', 'HostPortParts', 'JoinParts', 'TranslationParts': none of their maps has the key vxlan-peers.
-/
import Derived.Test.Qxb6605627aMaps
namespace Go.Proofs.Qxb6605627a
open Go.RowKit Go.Maps
set_option linter.unusedVariables false

/-- WHAT A MAKER OF Parts GIVES: two maps of its own, without the key. -/
def Made (n1 n2 : Nat) (w : World) (e : Ending) (w' : World) : Prop :=
  ∃ b1 b2, e = .returned (.agg #[.map (some b1), .map (some b2)]) ∧ w.heap.size ≤ b1 ∧ w.heap.size ≤ b2 ∧ b1 ≠ b2 ∧ Lacks w' b1 n1 ∧ Lacks w' b2 n2 ∧ Below w.heap.size w w'

theorem info24 (x y : Value) : (Try.prog.info? 24).map (·.size) = some (#[x, y] : Array Value).size := by kernel_rfl

theorem one24 (x y : Option Nat) : (#[.map x, .map y] : Array Value).all (·.oneCell') = true := by
  simp [Value.oneCell']
theorem old24 (x y x' y' : Value) : (#[x, y] : Array Value).size = (#[x', y'] : Array Value).size := rfl

/-- The end of each: the two maps laid into the result's cells (block c), and read back. -/
theorem made_setRow {n1 n2 c b1 b2 : Nat} {w W : World} (hc : W.heap[c]? = some (.cells #[.map none, .map none] 24 (0, 0))) (hcw : w.heap.size ≤ c) (h1 : w.heap.size ≤ b1) (h2 : w.heap.size ≤ b2) (h12 : b1 ≠ b2) (l1 : Lacks W b1 n1) (l2 : Lacks W b2 n2) (hb : Below w.heap.size w W) :
    (W.setRow c #[.map (some b1), .map (some b2)]).heap[c]? = some (.cells #[.map (some b1), .map (some b2)] 24 (0, 0)) ∧
    Made n1 n2 w (.returned (.agg #[.map (some b1), .map (some b2)])) (W.setRow c #[.map (some b1), .map (some b2)]) := by
  have hne : ∀ b n, Lacks W b n → b ≠ c := by
    rintro b n ⟨D, ⟨es, clock, hm, _⟩, _⟩ rfl
    rw [hc] at hm; cases hm
  refine ⟨setRow_heap W c _ _ _ _ hc, b1, b2, rfl, h1, h2, h12, l1.same (setRow_other _ _ _ _ (hne _ _ l1)), l2.same (setRow_other _ _ _ _ (hne _ _ l2)), ?_⟩
  refine hb.trans ⟨rfl, rfl, rfl, ?_, fun k hk => setRow_other _ _ _ _ (by omega)⟩
  simp [World.setRow]

/-- Two maps made behind the result's cells. -/
theorem lacks_two (w : World) (o : Obj) : Lacks (((w.alloc o).alloc (.map #[] 0)).alloc (.map #[] 0)) (w.heap.size + 1) 0 ∧ Lacks (((w.alloc o).alloc (.map #[] 0)).alloc (.map #[] 0)) (w.heap.size + 1 + 1) 0 := by
  have h1 := (lacks_made (w.alloc o)).alloc (.map #[] 0)
  have h2 := lacks_made ((w.alloc o).alloc (.map #[] 0))
  simp only [World.size_alloc] at h1 h2
  exact ⟨h1, h2⟩
theorem lacks_one (w : World) (o : Obj) : Lacks ((w.alloc o).alloc (.map #[] 0)) (w.heap.size + 1) 0 := by
  have h1 := lacks_made (w.alloc o)
  simp only [World.size_alloc] at h1
  exact h1

set_option maxHeartbeats 400000 in
set_option maxRecDepth 100000 in
theorem newParts (w : World) : Calls Try.prog 15 #[] w fun e w' => Made 0 0 w e w' := by
  have hmm := @run_makeMap Try.prog
  go_enter Try.func15, Try.ntmps15
  go_wp2
  have L := lacks_two w (Obj.cells #[Value.map (some (w.heap.size + 1)), Value.map (some (w.heap.size + 1 + 1))] 24)
  refine bodyPost_ret (v := .agg #[.map (some (w.heap.size + 1)), .map (some (w.heap.size + 1 + 1))]) ?_ rfl ⟨_, _, rfl, by omega, by omega, by omega, L.1, L.2, ?_⟩
  · refine results_cell_row Try.results15 _ _ w.heap.size 24 _ (0, 0) _ rfl ?_ Try.underlying24 rfl (info24 _ _)
    rw [Below.heap_alloc _ _ _ (by simp; omega), Below.heap_alloc _ _ _ (by simp)]
    exact heap_alloc_new w _
  · exact (((Below.refl _ _).alloc (Nat.le_refl _) _).alloc (by simp) _).alloc (by simp; omega) _

theorem cells_kept {w W W' : World} {c : Nat} {row : Option Nat} {o : Obj} (h : W.heap[c]? = some o) (hg : W.grownBy W' row) (hne : some c ≠ row) : W'.heap[c]? = some o :=
  (hg.block c (Array.getElem?_eq_some_iff.1 h).1 hne).trans h
theorem cells_alloc {W : World} {c : Nat} {o : Obj} (h : W.heap[c]? = some o) (x : Obj) : (W.alloc x).heap[c]? = some o :=
  (Below.heap_alloc _ _ _ (Array.getElem?_eq_some_iff.1 h).1).trans h

set_option maxHeartbeats 400000 in
set_option maxRecDepth 100000 in
theorem natParts (w : World) : Calls Try.prog 8 #[] w fun e w' => Made 1 1 w e w' := by
  have hmm := @run_makeMap Try.prog
  have L0 := lacks_one w (Obj.cells #[Value.map none, Value.map none] 24)
  have C0 := cells_alloc (heap_alloc_new w (Obj.cells #[Value.map none, Value.map none] 24)) (.map #[] 0)
  have B0 : Below w.heap.size w ((w.alloc (Obj.cells #[Value.map none, Value.map none] 24)).alloc (.map #[] 0)) := ((Below.refl _ _).alloc (Nat.le_refl _) _).alloc (by simp) _
  have S0 : ((w.alloc (Obj.cells #[Value.map none, Value.map none] 24)).alloc (.map #[] 0)).heap.size = w.heap.size + 2 := by simp
  obtain ⟨w1, r1, l1, g1⟩ := insert_run _ _ _ { data := #[110, 97, 116, 45, 111, 117, 116, 103, 111, 105, 110, 103] } L0 (by decide) (by decide) (by decide)
  have C1 := cells_kept (w := w) C0 g1 (by simp)
  have B1 := B0.grown g1 (by omega) (fun k hk => by cases hk; omega)
  have S1 := g1.size
  obtain ⟨w2, r2, l2, g2⟩ := insert_run _ _ _ { data := #[110, 97, 116, 45, 111, 117, 116, 103, 111, 105, 110, 103, 45, 101, 120, 101, 109, 112, 116] } (lacks_made w1) (by decide) (by decide) (by decide)
  have C2 := cells_kept (w := w) (cells_alloc C1 (.map #[] 0)) g2 (by simp; omega)
  have B2 := (B1.alloc (by omega) (.map #[] 0)).grown g2 (by simp; omega) (fun k hk => by cases hk; omega)
  have K1 := (l1.alloc (.map #[] 0)).kept g2 (by have := l1.lt; simp; omega)
  have M := made_setRow (n1 := 1) (n2 := 1) C2 (Nat.le_refl _) (show w.heap.size ≤ w.heap.size + 1 by omega) (show w.heap.size ≤ w1.heap.size by omega) (by omega) K1 l2 B2
  have HC : Hid _ := C2
  have HM : Hid _ := M
  clear C0 C1 C2 B0 B1 B2 M K1 l1 l2 g1 g2 L0 S0 S1
  go_enter Try.func8, Try.ntmps8
  go_wp2_with (refine wpList_store_row rfl 24 (.tmp 0) (.tmp 5) rfl w.heap.size #[.map (some (w.heap.size + 1)), .map (some w1.heap.size)] rfl rfl 24 #[.map none, .map none] HC.out (info24 _ _) (old24 _ _ _ _) (one24 _ _) ?_)
  refine bodyPost_ret (v := .agg #[.map (some (w.heap.size + 1)), .map (some w1.heap.size)]) ?_ rfl HM.out.2
  exact results_cell_row Try.results8 _ _ w.heap.size 24 _ (0, 0) _ rfl HM.out.1 Try.underlying24 rfl (info24 _ _)
set_option maxHeartbeats 400000 in
set_option maxRecDepth 100000 in
theorem hostParts (w : World) : Calls Try.prog 9 #[] w fun e w' => Made 4 0 w e w' := by
  have hmm := @run_makeMap Try.prog
  have L0 := lacks_one w (Obj.cells #[Value.map none, Value.map none] 24)
  have C0 := cells_alloc (heap_alloc_new w (Obj.cells #[Value.map none, Value.map none] 24)) (.map #[] 0)
  have B0 : Below w.heap.size w ((w.alloc (Obj.cells #[Value.map none, Value.map none] 24)).alloc (.map #[] 0)) := ((Below.refl _ _).alloc (Nat.le_refl _) _).alloc (by simp) _
  have S0 : w.heap.size + 2 ≤ ((w.alloc (Obj.cells #[Value.map none, Value.map none] 24)).alloc (.map #[] 0)).heap.size := by simp
  obtain ⟨w1, r1, L1, g1⟩ := insert_run _ _ _ { data := #[104, 111, 115, 116, 45, 112, 111, 114, 116, 115] } L0 (by decide) (by decide) (by decide)
  have C1 := cells_kept (w := w) C0 g1 (by simp)
  have B1 := B0.grown g1 (by omega) (fun k hk => by cases hk; omega)
  have S1 := Nat.le_trans S0 g1.size
  obtain ⟨w2, r2, L2, g2⟩ := insert_run _ _ _ { data := #[104, 111, 115, 116, 45, 112, 111, 114, 116, 115, 45, 112, 114, 101, 114, 111, 117, 116, 105, 110, 103] } L1 (by decide) (by decide) (by decide)
  have C2 := cells_kept (w := w) C1 g2 (by simp)
  have B2 := B1.grown g2 (by omega) (fun k hk => by cases hk; omega)
  have S2 := Nat.le_trans S1 g2.size
  obtain ⟨w3, r3, L3, g3⟩ := insert_run _ _ _ { data := #[104, 111, 115, 116, 45, 112, 111, 114, 116, 115, 45, 111, 117, 116, 112, 117, 116] } L2 (by decide) (by decide) (by decide)
  have C3 := cells_kept (w := w) C2 g3 (by simp)
  have B3 := B2.grown g3 (by omega) (fun k hk => by cases hk; omega)
  have S3 := Nat.le_trans S2 g3.size
  obtain ⟨w4, r4, L4, g4⟩ := insert_run _ _ _ { data := #[104, 111, 115, 116, 45, 112, 111, 114, 116, 115, 45, 104, 97, 105, 114, 112, 105, 110] } L3 (by decide) (by decide) (by decide)
  have C4 := cells_kept (w := w) C3 g4 (by simp)
  have B4 := B3.grown g4 (by omega) (fun k hk => by cases hk; omega)
  have S4 := Nat.le_trans S3 g4.size
  have C5 := cells_alloc C4 (.map #[] 0)
  have B5 := B4.alloc (by omega) (.map #[] 0)
  have L5 := L4.alloc (.map #[] 0)
  have L6 := lacks_made w4
  have M := made_setRow (n1 := 4) (n2 := 0) C5 (Nat.le_refl _) (show w.heap.size ≤ w.heap.size + 1 by omega) (show w.heap.size ≤ w4.heap.size by omega) (by omega) L5 L6 B5
  have HC : Hid _ := C5
  have HM : Hid _ := M
  clear C0 C1 C2 C3 C4 C5 B0 B1 B2 B3 B4 B5 M L1 L2 L3 L4 L5 L6 g1 g2 g3 g4 L0 S0 S1 S2 S3 S4
  go_enter Try.func9, Try.ntmps9
  go_wp2_with (refine wpList_store_row rfl 24 (.tmp 0) (.tmp 4) rfl w.heap.size #[.map (some (w.heap.size + 1)), .map (some w4.heap.size)] rfl rfl 24 #[.map none, .map none] HC.out (info24 _ _) (old24 _ _ _ _) (one24 _ _) ?_)
  refine bodyPost_ret (v := .agg #[.map (some (w.heap.size + 1)), .map (some w4.heap.size)]) ?_ rfl HM.out.2
  exact results_cell_row Try.results9 _ _ w.heap.size 24 _ (0, 0) _ rfl HM.out.1 Try.underlying24 rfl (info24 _ _)

/-- WHAT STANDS BETWEEN TWO ROUNDS OF JoinParts. -/
structure Inv (w X : World) (r j b1 b2 n : Nat) : Prop where
  below : Below w.heap.size w X
  cr : X.heap[r]? = some (.cells #[.map none, .map none] 24 (0, 0))
  cj : X.heap[j]? = some (.cells #[.map (some b1), .map (some b2)] 24 (0, 0))
  l1 : Lacks X b1 n
  l2 : Lacks X b2 n
  hr : w.heap.size ≤ r
  hj : w.heap.size ≤ j
  h1 : w.heap.size ≤ b1
  h2 : w.heap.size ≤ b2
  h12 : b1 ≠ b2

theorem Lacks.ne_cells {W : World} {b n c : Nat} {A : Array Value} {t : TypeId} {fr : Nat × Nat} (h : Lacks W b n) (hc : W.heap[c]? = some (.cells A t fr)) : b ≠ c := by
  obtain ⟨D, ⟨es, clock, hm, _⟩, _⟩ := h
  rintro rfl
  rw [hc] at hm; cases hm

theorem Inv.alloc {w X : World} {r j b1 b2 n : Nat} (I : Inv w X r j b1 b2 n) (o : Obj) : Inv w (X.alloc o) r j b1 b2 n :=
  ⟨I.below.alloc I.below.size _, cells_alloc I.cr o, cells_alloc I.cj o, I.l1.alloc o, I.l2.alloc o, I.hr, I.hj, I.h1, I.h2, I.h12⟩

theorem round_join {w X : World} {r j b1 b2 n : Nat} (I : Inv w X r j b1 b2 n) (hn : n ≤ 8) (c s : Nat) (lc : Lacks w c 4) (ls : Lacks w s 4) :
    Calls Try.prog 16 #[.map (some b1), .map (some c)] (X.alloc (.cells #[.map (some c), .map (some s)] 24)) fun e Y1 => e = .returned (.tuple #[]) ∧
      Y1.cell? ⟨j, 1, none⟩ = some (.map (some b2)) ∧ Y1.cell? ⟨X.heap.size, 1, none⟩ = some (.map (some s)) ∧
      Calls Try.prog 16 #[.map (some b2), .map (some s)] Y1 fun e Y2 => e = .returned (.tuple #[]) ∧ Inv w Y2 r j b1 b2 (n + 4) := by
  have J := I.alloc (.cells #[.map (some c), .map (some s)] 24)
  have cp := heap_alloc_new X (.cells #[.map (some c), .map (some s)] 24)
  have hc := lc.lt
  have hs := ls.lt
  have i1 := I.h1
  have i2 := I.h2
  have sz := J.below.size
  refine Calls.mono (copy_lacks _ b1 c n 4 J.l1 (lc.below J.below hc) (by omega) (by omega) (by omega)) ?_
  rintro e Y1 ⟨rfl, m1, g1⟩
  have cj1 := cells_kept (w := w) J.cj g1 (by have := J.l1.ne_cells J.cj; simp; omega)
  have cr1 := cells_kept (w := w) J.cr g1 (by have := J.l1.ne_cells J.cr; simp; omega)
  have cp1 := cells_kept (w := w) cp g1 (by have := J.l1.ne_cells cp; simp; omega)
  have B1 := J.below.grown g1 sz (fun k hk => by cases hk; omega)
  have k2 := J.l2.kept g1 (by have := I.h12; simp; omega)
  refine ⟨rfl, by simp [World.cell?, cj1], by simp [World.cell?, cp1], ?_⟩
  refine Calls.mono (copy_lacks _ b2 s n 4 k2 (ls.below B1 hs) (by omega) (by omega) (by omega)) ?_
  rintro e Y2 ⟨rfl, m2, g2⟩
  refine ⟨rfl, B1.grown g2 B1.size (fun k hk => by cases hk; omega), cells_kept (w := w) cr1 g2 (by have := k2.ne_cells cr1; simp; omega), cells_kept (w := w) cj1 g2 (by have := k2.ne_cells cj1; simp; omega), m1.kept g2 (by have := I.h12; simp; omega), m2, I.hr, I.hj, I.h1, I.h2, I.h12⟩

theorem inv_start {w w1 : World} {b1 b2 : Nat} (h1 : (w.alloc (.cells #[.map none, .map none] 24)).heap.size ≤ b1) (h2 : (w.alloc (.cells #[.map none, .map none] 24)).heap.size ≤ b2) (h12 : b1 ≠ b2) (l1 : Lacks w1 b1 0) (l2 : Lacks w1 b2 0)
    (hb : Below (w.alloc (.cells #[.map none, .map none] 24)).heap.size (w.alloc (.cells #[.map none, .map none] 24)) w1) :
    Inv w (w1.alloc (.cells #[.map (some b1), .map (some b2)] 24)) w.heap.size w1.heap.size b1 b2 0 := by
  have s1 := hb.size
  simp only [World.size_alloc] at h1 h2 s1
  have b0 : Below w.heap.size w (w.alloc (.cells #[.map none, .map none] 24)) := (Below.refl _ _).alloc (Nat.le_refl _) _
  have bw : Below w.heap.size w w1 := b0.trans (hb.mono (by simp))
  exact ⟨bw.alloc bw.size _, cells_alloc ((hb.block _ (by simp)).trans (heap_alloc_new w _)) _, heap_alloc_new w1 _, l1.alloc _, l2.alloc _, Nat.le_refl _, by omega, by omega, by omega, h12⟩

set_option maxHeartbeats 1000000 in
set_option maxRecDepth 100000 in
theorem joinParts (w : World) (g c1 s1 c2 s2 : Nat) (hg : w.heap[g]? = some (.cells #[.map (some c1), .map (some s1), .map (some c2), .map (some s2)] 24 (0, 0)))
    (lc1 : Lacks w c1 4) (ls1 : Lacks w s1 4) (lc2 : Lacks w c2 4) (ls2 : Lacks w s2 4) :
    Calls Try.prog 13 #[.slice (some ⟨g, 0, none⟩) 2 2] w fun e w' => Made 8 8 w e w' := by
  have HG : Hid _ := hg
  have gl : g < w.heap.size := (Array.getElem?_eq_some_iff.1 hg).1
  have HN : Hid _ := newParts (w.alloc (.cells #[.map none, .map none] 24))
  clear hg
  go_enter Try.func13, Try.ntmps13
  go_wp2_with fail
  refine Calls.mono HN.out ?_
  rintro e w1 ⟨b1, b2, rfl, h1, h2, h12, l1, l2, hb⟩
  have I0 := inv_start h1 h2 h12 l1 l2 hb
  have g0 := (I0.below.block g gl).trans HG.out
  have sb := hb.size
  simp only [World.size_alloc] at sb
  have n1 : w1.heap.size ≠ g := by omega
  have n2 : g ≠ w1.heap.size := by omega
  clear h1 h2 h12 l1 l2 hb
  obtain ⟨X, hX⟩ : ∃ X, X = w1.alloc (.cells #[.map (some b1), .map (some b2)] 24) := ⟨_, rfl⟩
  rw [← hX] at I0 g0
  have sX : X.heap.size = w1.heap.size + 1 := by rw [hX]; simp
  have k0 : X.cell? ⟨g, 0, none⟩ = some (.map (some c1)) := by simp [World.cell?, g0]
  have k1 : X.cell? ⟨g, 1, none⟩ = some (.map (some s1)) := by simp [World.cell?, g0]
  have k2 : (X.alloc (.cells #[.map (some c1), .map (some s1)] 24)).cell? ⟨w1.heap.size, 0, none⟩ = some (.map (some b1)) := by simp [World.cell?, (I0.alloc (.cells #[.map (some c1), .map (some s1)] 24)).cj]
  have n3 : w1.heap.size ≠ X.heap.size := by omega
  have n4 : g ≠ X.heap.size := by omega
  have HC : Hid _ := round_join I0 (by omega) c1 s1 lc1 ls1
  clear g0
  go_wp2_with fail
  rw [← hX]
  clear hX sX
  refine wp_loop_rounds 3 ?_
  rw [rounds_succ]
  go_wp2_with fail
  refine Calls.mono HC.out ?_
  rintro e Y1 ⟨rfl, q1, q2, C⟩
  have HC2 : Hid _ := C
  clear C k0 k1 k2
  go_wp2_with fail
  refine Calls.mono HC2.out ?_
  rintro e Y2 ⟨rfl, I2⟩
  have g2 := (I2.below.block g gl).trans HG.out
  have k0 : Y2.cell? ⟨g, 2, none⟩ = some (.map (some c2)) := by simp [World.cell?, g2]
  have k1 : Y2.cell? ⟨g, 3, none⟩ = some (.map (some s2)) := by simp [World.cell?, g2]
  have k2 : (Y2.alloc (.cells #[.map (some c2), .map (some s2)] 24)).cell? ⟨w1.heap.size, 0, none⟩ = some (.map (some b1)) := by simp [World.cell?, (I2.alloc (.cells #[.map (some c2), .map (some s2)] 24)).cj]
  have jl : w1.heap.size < Y2.heap.size := (Array.getElem?_eq_some_iff.1 I2.cj).1
  have sl := I2.below.size
  have n5 : w1.heap.size ≠ Y2.heap.size := by omega
  have n6 : g ≠ Y2.heap.size := by omega
  have HD : Hid _ := round_join I2 (by omega) c2 s2 lc2 ls2
  clear q1 q2 HC HC2 g2
  go_wp2_with fail
  rw [rounds_succ]
  go_wp2_with fail
  refine Calls.mono HD.out ?_
  rintro e Z1 ⟨rfl, q1, q2, C⟩
  have HD2 : Hid _ := C
  clear C k0 k1 k2
  go_wp2_with fail
  refine Calls.mono HD2.out ?_
  rintro e Z2 ⟨rfl, I3⟩
  have IC : Hid _ := I3.cj
  have IR : Hid _ := I3.cr
  have M : Hid _ := made_setRow (n1 := 8) (n2 := 8) I3.cr I3.hr I3.h1 I3.h2 I3.h12 I3.l1 I3.l2 I3.below
  clear q1 q2 HD HD2
  go_wp2_with fail
  rw [rounds_succ]
  go_wp2_with (first
    | (refine wpList_load_row rfl 24 (.tmp 3) rfl w1.heap.size rfl 24 #[.map (some b1), .map (some b2)] (0, 0) _ IC.out Try.underlying24 rfl (info24 _ _) ?_)
    | (refine wpList_store_row rfl 24 (.tmp 2) (.tmp 24) rfl w.heap.size #[.map (some b1), .map (some b2)] rfl rfl 24 #[.map none, .map none] IR.out (info24 _ _) (old24 _ _ _ _) (one24 _ _) ?_))
  refine bodyPost_ret (v := .agg #[.map (some b1), .map (some b2)]) ?_ rfl M.out.2
  exact results_cell_row Try.results13 _ _ w.heap.size 24 _ (0, 0) _ rfl M.out.1 Try.underlying24 rfl (info24 _ _)

set_option maxHeartbeats 1000000 in
set_option maxRecDepth 100000 in
theorem transParts (w : World) : Calls Try.prog 6 #[] w fun e w' => Made 8 8 w e w' := by
  have HN : Hid _ := natParts (w.alloc (.cells #[.map none, .map none] 24))
  have c0 := heap_alloc_new w (.cells #[.map none, .map none] 24)
  have B0 : Below w.heap.size w (w.alloc (.cells #[.map none, .map none] 24)) := (Below.refl _ _).alloc (Nat.le_refl _) _
  go_enter Try.func6, Try.ntmps6
  go_wp2_with fail
  refine Calls.mono HN.out ?_
  rintro e w1 ⟨a1, a2, rfl, h1, h2, h12, l1, l2, hb1⟩
  have HH : Hid _ := hostParts w1
  have c1 := (hb1.block w.heap.size (by simp)).trans c0
  have B1 := B0.trans (hb1.mono (by simp))
  have z1 := hb1.size
  simp only [World.size_alloc] at h1 h2 z1
  clear hb1 c0 B0
  go_wp2_with fail
  refine Calls.mono HH.out ?_
  rintro e w2 ⟨d1, d2, rfl, i1, i2, i12, m1, m2, hb2⟩
  have c2 := (hb2.block w.heap.size (by omega)).trans c1
  have B2 := B1.trans (hb2.mono B1.size)
  have z2 := hb2.size
  have l1' := l1.below hb2 l1.lt
  have l2' := l2.below hb2 l2.lt
  have HJ : Hid _ := joinParts (w2.alloc (.cells #[.map (some a1), .map (some a2), .map (some d1), .map (some d2)] 24)) w2.heap.size a1 a2 d1 d2 (heap_alloc_new _ _) ((l1'.alloc _).mono (by omega)) ((l2'.alloc _).mono (by omega)) ((m1.alloc _).mono (by omega)) ((m2.alloc _).mono (by omega))
  have c3 := cells_alloc c2 (.cells #[.map (some a1), .map (some a2), .map (some d1), .map (some d2)] 24)
  have B3 := B2.alloc B2.size (.cells #[.map (some a1), .map (some a2), .map (some d1), .map (some d2)] 24)
  clear hb2 c1 B1 l1 l2 h12 i12 m1 m2 l1' l2' h1 h2 i1 i2 c2 B2
  go_wp2_with fail
  refine Calls.mono HJ.out ?_
  rintro e w3 ⟨b1, b2, rfl, j1, j2, j12, n1, n2, hb3⟩
  simp only [World.size_alloc] at j1 j2
  have c4 := (hb3.block w.heap.size (by simp; omega)).trans c3
  have B4 := B3.trans (hb3.mono B3.size)
  have M : Hid _ := made_setRow (n1 := 8) (n2 := 8) c4 (Nat.le_refl _) (show w.heap.size ≤ b1 by omega) (show w.heap.size ≤ b2 by omega) j12 n1 n2 B4
  have HC : Hid _ := c4
  clear c3 c4 B3 B4 hb3 n1 n2 j12 HJ HH HN
  go_wp2_with (refine wpList_store_row rfl 24 (.tmp 0) (.tmp 4) rfl w.heap.size #[.map (some b1), .map (some b2)] rfl rfl 24 #[.map none, .map none] HC.out (info24 _ _) (old24 _ _ _ _) (one24 _ _) ?_)
  refine bodyPost_ret (v := .agg #[.map (some b1), .map (some b2)]) ?_ rfl M.out.2
  exact results_cell_row Try.results6 _ _ w.heap.size 24 _ (0, 0) _ rfl M.out.1 Try.underlying24 rfl (info24 _ _)

end Go.Proofs.Qxb6605627a
