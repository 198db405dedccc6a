/-
  THE WALK of 'FnVXLANInputChainDropsExactlyOutsiders'.
-/
import Derived.Test.Qxb6605627aChain
import Derived.Test.Qxb6605627aVerdict
namespace Go.Proofs.Qxb6605627a
open Go.RowKit
set_option linter.unusedVariables false

/-- What the three blocks of a chain hold. -/
theorem blocks3 (w : World) (A B C : Array Value) (s t u : TypeId) :
    (((w.alloc (Obj.cells A s)).alloc (Obj.cells B t)).alloc (Obj.cells C u)).heap[w.heap.size + 1]? = some (.cells B t (0, 0)) ∧
    (((w.alloc (Obj.cells A s)).alloc (Obj.cells B t)).alloc (Obj.cells C u)).heap[w.heap.size + 1 + 1]? = some (.cells C u (0, 0)) ∧
    Below w.heap.size w (((w.alloc (Obj.cells A s)).alloc (Obj.cells B t)).alloc (Obj.cells C u)) := by
  refine ⟨?_, ?_, (((Below.refl _ _).alloc (Nat.le_refl _) _).alloc (by simp) _).alloc (by simp; omega) _⟩
  · rw [Below.heap_alloc _ _ _ (by simp)]
    have := heap_alloc_new (w.alloc (Obj.cells A s)) (Obj.cells B t)
    simpa using this
  · have := heap_alloc_new ((w.alloc (Obj.cells A s)).alloc (Obj.cells B t)) (Obj.cells C u)
    simpa using this

/-- The chain, told by its blocks. -/
theorem chain_told (p : Int) (h0 : 0 ≤ p) (h1 : p ≤ 65535) (w : World) :
    Calls Try.prog 11 #[.int .u16 p] w fun e w' => e = .returned (.agg #[.pointer (some ⟨w.heap.size + 1, 0, none⟩), .slice (some ⟨w.heap.size + 1 + 1, 0, none⟩) 1 1]) ∧
      w'.heap[w.heap.size + 1]? = some (.cells #[.int .i64 2, .int .i32 0] 37 (0, 0)) ∧ w'.heap[w.heap.size + 1 + 1]? = some (.cells #[.string { data := #[] }, .bool false, .bool false, .bool false, .int .i64 1, .bool false, .int .u64 0, .int .u64 0, .pointer none, .int .u64 0, .int .u64 0, .pointer none, .string { data := #[] }, .string { data := #[] }, .string { data := #[118, 120, 108, 97, 110, 45, 112, 101, 101, 114, 115] }, .string { data := #[] }, .int .u8 17, .int .u16 p, .int .u16 p, .string { data := #[] }, .int .u32 0, .int .i64 2, .string { data := #[] }, .int .u64 0, .int .u64 0, .pointer none, .int .u16 0] 58 (0, 0)) ∧ Below w.heap.size w w' := by
  refine (chain_any p h0 h1 w).mono ?_
  rintro e w' ⟨rfl, rfl⟩
  exact ⟨rfl, blocks3 w _ _ _ _ _ _⟩

set_option maxHeartbeats 4000000 in
set_option maxRecDepth 100000 in
theorem law4_case (b : Bool) (p fam proto dport : Int) (inP : Bool) (h0 : 0 ≤ p) (h1 : p ≤ 65535) (w : World)
    (hv : ∀ wx, Calls Try.prog 14 #[.agg #[.string { data := #[] }, .bool false, .bool false, .bool false, .int .i64 1, .bool false, .int .u64 0, .int .u64 0, .pointer none, .int .u64 0, .int .u64 0, .pointer none, .string { data := #[] }, .string { data := #[] }, .string { data := #[118, 120, 108, 97, 110, 45, 112, 101, 101, 114, 115] }, .string { data := #[] }, .int .u8 17, .int .u16 p, .int .u16 p, .string { data := #[] }, .int .u32 0, .int .i64 2, .string { data := #[] }, .int .u64 0, .int .u64 0, .pointer none, .int .u16 0], .int .i64 fam, .int .u8 proto, .int .u16 dport, .bool inP] wx fun e w' => e = .returned (.tuple #[.bool b, .int .i64 2]) ∧ Below wx.heap.size wx w')
    (hw : (b = true ∧ fam = 1 ∧ proto = 17 ∧ (p = 0 ∨ dport = p) ∧ inP = false) ∨ (b = false ∧ (fam ≠ 1 ∨ proto ≠ 17 ∨ (p ≠ 0 ∧ dport ≠ p) ∨ inP = true))) :
    Calls Try.prog 4 #[.int .u16 p, .int .i64 fam, .int .u8 proto, .int .u16 dport, .bool inP] w fun e w' => e = .returned (.bool true) ∧ Below w.heap.size w w' := by
  have hR : (Try.prog.info? 58).map (·.size) = some (#[.string { data := #[] }, .bool false, .bool false, .bool false, .int .i64 1, .bool false, .int .u64 0, .int .u64 0, .pointer none, .int .u64 0, .int .u64 0, .pointer none, .string { data := #[] }, .string { data := #[] }, .string { data := #[118, 120, 108, 97, 110, 45, 112, 101, 101, 114, 115] }, .string { data := #[] }, .int .u8 17, .int .u16 p, .int .u16 p, .string { data := #[] }, .int .u32 0, .int .i64 2, .string { data := #[] }, .int .u64 0, .int .u64 0, .pointer none, .int .u16 0] : Array Value).size := by kernel_rfl
  have T := chain_told p h0 h1 w
  obtain ⟨R, hRe⟩ : ∃ R : Array Value, R = #[.string { data := #[] }, .bool false, .bool false, .bool false, .int .i64 1, .bool false, .int .u64 0, .int .u64 0, .pointer none, .int .u64 0, .int .u64 0, .pointer none, .string { data := #[] }, .string { data := #[] }, .string { data := #[118, 120, 108, 97, 110, 45, 112, 101, 101, 114, 115] }, .string { data := #[] }, .int .u8 17, .int .u16 p, .int .u16 p, .string { data := #[] }, .int .u32 0, .int .i64 2, .string { data := #[] }, .int .u64 0, .int .u64 0, .pointer none, .int .u16 0] := ⟨_, rfl⟩
  rw [← hRe] at hv hR T
  clear hRe
  have HV : Hid _ := hv
  have HR : Hid _ := hR
  have HT : Hid _ := T
  clear hv hR T
  rcases hw with ⟨rfl, rfl, rfl, hp, rfl⟩ | ⟨rfl, hp⟩
  · rcases hp with rfl | rfl
    · skip
      go_enter Try.func4, Try.ntmps4
      go_wp2_with fail
      refine Calls.mono HT.out ?_
      rintro e w1 ⟨rfl, a1, a2, bw⟩
      have l1 := lt_of_some a1
      have l2 := lt_of_some a2
      have c1 : w1.cell? ⟨w.heap.size + 1, 1, none⟩ = some (.int .i32 0) := by simp [World.cell?, a1]
      obtain ⟨W2, hW2⟩ : ∃ W2, W2 = w1.alloc (Obj.cells #[.pointer (some ⟨w.heap.size + 1, 0, none⟩), .slice (some ⟨w.heap.size + 1 + 1, 0, none⟩) 1 1] 33) := ⟨_, rfl⟩
      have b2 : Below w1.heap.size w1 W2 := by rw [hW2]; exact (Below.refl _ _).alloc (Nat.le_refl _) _
      have d1 := (b2.block _ l1).trans a1
      have d2 := (b2.block _ l2).trans a2
      have bb : Below w.heap.size w W2 := bw.trans (b2.mono bw.size)
      rw [hW2] at d1 d2 bb
      have C := chainv_any _ R _ _ _ _ _ _ _ HR.out d1 d2 HV.out
      have HC : Hid _ := C
      have n1 : w.heap.size + 1 ≠ w1.heap.size := by omega
      clear a1 a2 hW2 b2 d1 d2 C bw
      go_wp2_with fail
      refine Calls.mono HC.out ?_
      rintro e w3 ⟨rfl, b3⟩
      go_wp2
      go_ret
      exact ⟨rfl, bb.trans (b3.mono bb.size)⟩
    · by_cases hz : dport = 0
      · subst hz
        go_enter Try.func4, Try.ntmps4
        go_wp2_with fail
        refine Calls.mono HT.out ?_
        rintro e w1 ⟨rfl, a1, a2, bw⟩
        have l1 := lt_of_some a1
        have l2 := lt_of_some a2
        have c1 : w1.cell? ⟨w.heap.size + 1, 1, none⟩ = some (.int .i32 0) := by simp [World.cell?, a1]
        obtain ⟨W2, hW2⟩ : ∃ W2, W2 = w1.alloc (Obj.cells #[.pointer (some ⟨w.heap.size + 1, 0, none⟩), .slice (some ⟨w.heap.size + 1 + 1, 0, none⟩) 1 1] 33) := ⟨_, rfl⟩
        have b2 : Below w1.heap.size w1 W2 := by rw [hW2]; exact (Below.refl _ _).alloc (Nat.le_refl _) _
        have d1 := (b2.block _ l1).trans a1
        have d2 := (b2.block _ l2).trans a2
        have bb : Below w.heap.size w W2 := bw.trans (b2.mono bw.size)
        rw [hW2] at d1 d2 bb
        have C := chainv_any _ R _ _ _ _ _ _ _ HR.out d1 d2 HV.out
        have HC : Hid _ := C
        have n1 : w.heap.size + 1 ≠ w1.heap.size := by omega
        clear a1 a2 hW2 b2 d1 d2 C bw
        go_wp2_with fail
        refine Calls.mono HC.out ?_
        rintro e w3 ⟨rfl, b3⟩
        go_wp2
        go_ret
        exact ⟨rfl, bb.trans (b3.mono bb.size)⟩
      · skip
        go_enter Try.func4, Try.ntmps4
        go_wp2_with fail
        refine Calls.mono HT.out ?_
        rintro e w1 ⟨rfl, a1, a2, bw⟩
        have l1 := lt_of_some a1
        have l2 := lt_of_some a2
        have c1 : w1.cell? ⟨w.heap.size + 1, 1, none⟩ = some (.int .i32 0) := by simp [World.cell?, a1]
        obtain ⟨W2, hW2⟩ : ∃ W2, W2 = w1.alloc (Obj.cells #[.pointer (some ⟨w.heap.size + 1, 0, none⟩), .slice (some ⟨w.heap.size + 1 + 1, 0, none⟩) 1 1] 33) := ⟨_, rfl⟩
        have b2 : Below w1.heap.size w1 W2 := by rw [hW2]; exact (Below.refl _ _).alloc (Nat.le_refl _) _
        have d1 := (b2.block _ l1).trans a1
        have d2 := (b2.block _ l2).trans a2
        have bb : Below w.heap.size w W2 := bw.trans (b2.mono bw.size)
        rw [hW2] at d1 d2 bb
        have C := chainv_any _ R _ _ _ _ _ _ _ HR.out d1 d2 HV.out
        have HC : Hid _ := C
        have n1 : w.heap.size + 1 ≠ w1.heap.size := by omega
        clear a1 a2 hW2 b2 d1 d2 C bw
        go_wp2_with fail
        refine Calls.mono HC.out ?_
        rintro e w3 ⟨rfl, b3⟩
        go_wp2
        go_ret
        exact ⟨rfl, bb.trans (b3.mono bb.size)⟩
  · by_cases hf : fam = 1
    · subst hf
      by_cases hq : proto = 17
      · subst hq
        by_cases hi : inP = true
        · subst hi
          by_cases hz : p = 0
          · subst hz
            go_enter Try.func4, Try.ntmps4
            go_wp2_with fail
            refine Calls.mono HT.out ?_
            rintro e w1 ⟨rfl, a1, a2, bw⟩
            have l1 := lt_of_some a1
            have l2 := lt_of_some a2
            have c1 : w1.cell? ⟨w.heap.size + 1, 1, none⟩ = some (.int .i32 0) := by simp [World.cell?, a1]
            obtain ⟨W2, hW2⟩ : ∃ W2, W2 = w1.alloc (Obj.cells #[.pointer (some ⟨w.heap.size + 1, 0, none⟩), .slice (some ⟨w.heap.size + 1 + 1, 0, none⟩) 1 1] 33) := ⟨_, rfl⟩
            have b2 : Below w1.heap.size w1 W2 := by rw [hW2]; exact (Below.refl _ _).alloc (Nat.le_refl _) _
            have d1 := (b2.block _ l1).trans a1
            have d2 := (b2.block _ l2).trans a2
            have bb : Below w.heap.size w W2 := bw.trans (b2.mono bw.size)
            rw [hW2] at d1 d2 bb
            have C := chainv_any _ R _ _ _ _ _ _ _ HR.out d1 d2 HV.out
            have HC : Hid _ := C
            have n1 : w.heap.size + 1 ≠ w1.heap.size := by omega
            clear a1 a2 hW2 b2 d1 d2 C bw
            go_wp2_with fail
            refine Calls.mono HC.out ?_
            rintro e w3 ⟨rfl, b3⟩
            go_wp2
            go_ret
            exact ⟨rfl, bb.trans (b3.mono bb.size)⟩
          · by_cases hd : dport = p
            · subst hd
              go_enter Try.func4, Try.ntmps4
              go_wp2_with fail
              refine Calls.mono HT.out ?_
              rintro e w1 ⟨rfl, a1, a2, bw⟩
              have l1 := lt_of_some a1
              have l2 := lt_of_some a2
              have c1 : w1.cell? ⟨w.heap.size + 1, 1, none⟩ = some (.int .i32 0) := by simp [World.cell?, a1]
              obtain ⟨W2, hW2⟩ : ∃ W2, W2 = w1.alloc (Obj.cells #[.pointer (some ⟨w.heap.size + 1, 0, none⟩), .slice (some ⟨w.heap.size + 1 + 1, 0, none⟩) 1 1] 33) := ⟨_, rfl⟩
              have b2 : Below w1.heap.size w1 W2 := by rw [hW2]; exact (Below.refl _ _).alloc (Nat.le_refl _) _
              have d1 := (b2.block _ l1).trans a1
              have d2 := (b2.block _ l2).trans a2
              have bb : Below w.heap.size w W2 := bw.trans (b2.mono bw.size)
              rw [hW2] at d1 d2 bb
              have C := chainv_any _ R _ _ _ _ _ _ _ HR.out d1 d2 HV.out
              have HC : Hid _ := C
              have n1 : w.heap.size + 1 ≠ w1.heap.size := by omega
              clear a1 a2 hW2 b2 d1 d2 C bw
              go_wp2_with fail
              refine Calls.mono HC.out ?_
              rintro e w3 ⟨rfl, b3⟩
              go_wp2
              go_ret
              exact ⟨rfl, bb.trans (b3.mono bb.size)⟩
            · skip
              go_enter Try.func4, Try.ntmps4
              go_wp2_with fail
              refine Calls.mono HT.out ?_
              rintro e w1 ⟨rfl, a1, a2, bw⟩
              have l1 := lt_of_some a1
              have l2 := lt_of_some a2
              have c1 : w1.cell? ⟨w.heap.size + 1, 1, none⟩ = some (.int .i32 0) := by simp [World.cell?, a1]
              obtain ⟨W2, hW2⟩ : ∃ W2, W2 = w1.alloc (Obj.cells #[.pointer (some ⟨w.heap.size + 1, 0, none⟩), .slice (some ⟨w.heap.size + 1 + 1, 0, none⟩) 1 1] 33) := ⟨_, rfl⟩
              have b2 : Below w1.heap.size w1 W2 := by rw [hW2]; exact (Below.refl _ _).alloc (Nat.le_refl _) _
              have d1 := (b2.block _ l1).trans a1
              have d2 := (b2.block _ l2).trans a2
              have bb : Below w.heap.size w W2 := bw.trans (b2.mono bw.size)
              rw [hW2] at d1 d2 bb
              have C := chainv_any _ R _ _ _ _ _ _ _ HR.out d1 d2 HV.out
              have HC : Hid _ := C
              have n1 : w.heap.size + 1 ≠ w1.heap.size := by omega
              clear a1 a2 hW2 b2 d1 d2 C bw
              go_wp2_with fail
              refine Calls.mono HC.out ?_
              rintro e w3 ⟨rfl, b3⟩
              go_wp2
              go_ret
              exact ⟨rfl, bb.trans (b3.mono bb.size)⟩
        · have hpz : p ≠ 0 ∧ dport ≠ p := by
            rcases hp with h | h | h | h
            · exact absurd rfl h
            · exact absurd rfl h
            · exact h
            · exact absurd h hi
          obtain rfl : inP = false := by simpa using hi
          obtain ⟨hz, hd⟩ := hpz
          clear hp hi
          go_enter Try.func4, Try.ntmps4
          go_wp2_with fail
          refine Calls.mono HT.out ?_
          rintro e w1 ⟨rfl, a1, a2, bw⟩
          have l1 := lt_of_some a1
          have l2 := lt_of_some a2
          have c1 : w1.cell? ⟨w.heap.size + 1, 1, none⟩ = some (.int .i32 0) := by simp [World.cell?, a1]
          obtain ⟨W2, hW2⟩ : ∃ W2, W2 = w1.alloc (Obj.cells #[.pointer (some ⟨w.heap.size + 1, 0, none⟩), .slice (some ⟨w.heap.size + 1 + 1, 0, none⟩) 1 1] 33) := ⟨_, rfl⟩
          have b2 : Below w1.heap.size w1 W2 := by rw [hW2]; exact (Below.refl _ _).alloc (Nat.le_refl _) _
          have d1 := (b2.block _ l1).trans a1
          have d2 := (b2.block _ l2).trans a2
          have bb : Below w.heap.size w W2 := bw.trans (b2.mono bw.size)
          rw [hW2] at d1 d2 bb
          have C := chainv_any _ R _ _ _ _ _ _ _ HR.out d1 d2 HV.out
          have HC : Hid _ := C
          have n1 : w.heap.size + 1 ≠ w1.heap.size := by omega
          clear a1 a2 hW2 b2 d1 d2 C bw
          go_wp2_with fail
          refine Calls.mono HC.out ?_
          rintro e w3 ⟨rfl, b3⟩
          go_wp2
          go_ret
          exact ⟨rfl, bb.trans (b3.mono bb.size)⟩
      · clear hp
        go_enter Try.func4, Try.ntmps4
        go_wp2_with fail
        refine Calls.mono HT.out ?_
        rintro e w1 ⟨rfl, a1, a2, bw⟩
        have l1 := lt_of_some a1
        have l2 := lt_of_some a2
        have c1 : w1.cell? ⟨w.heap.size + 1, 1, none⟩ = some (.int .i32 0) := by simp [World.cell?, a1]
        obtain ⟨W2, hW2⟩ : ∃ W2, W2 = w1.alloc (Obj.cells #[.pointer (some ⟨w.heap.size + 1, 0, none⟩), .slice (some ⟨w.heap.size + 1 + 1, 0, none⟩) 1 1] 33) := ⟨_, rfl⟩
        have b2 : Below w1.heap.size w1 W2 := by rw [hW2]; exact (Below.refl _ _).alloc (Nat.le_refl _) _
        have d1 := (b2.block _ l1).trans a1
        have d2 := (b2.block _ l2).trans a2
        have bb : Below w.heap.size w W2 := bw.trans (b2.mono bw.size)
        rw [hW2] at d1 d2 bb
        have C := chainv_any _ R _ _ _ _ _ _ _ HR.out d1 d2 HV.out
        have HC : Hid _ := C
        have n1 : w.heap.size + 1 ≠ w1.heap.size := by omega
        clear a1 a2 hW2 b2 d1 d2 C bw
        go_wp2_with fail
        refine Calls.mono HC.out ?_
        rintro e w3 ⟨rfl, b3⟩
        go_wp2
        go_ret
        exact ⟨rfl, bb.trans (b3.mono bb.size)⟩
    · clear hp
      go_enter Try.func4, Try.ntmps4
      go_wp2_with fail
      refine Calls.mono HT.out ?_
      rintro e w1 ⟨rfl, a1, a2, bw⟩
      have l1 := lt_of_some a1
      have l2 := lt_of_some a2
      have c1 : w1.cell? ⟨w.heap.size + 1, 1, none⟩ = some (.int .i32 0) := by simp [World.cell?, a1]
      obtain ⟨W2, hW2⟩ : ∃ W2, W2 = w1.alloc (Obj.cells #[.pointer (some ⟨w.heap.size + 1, 0, none⟩), .slice (some ⟨w.heap.size + 1 + 1, 0, none⟩) 1 1] 33) := ⟨_, rfl⟩
      have b2 : Below w1.heap.size w1 W2 := by rw [hW2]; exact (Below.refl _ _).alloc (Nat.le_refl _) _
      have d1 := (b2.block _ l1).trans a1
      have d2 := (b2.block _ l2).trans a2
      have bb : Below w.heap.size w W2 := bw.trans (b2.mono bw.size)
      rw [hW2] at d1 d2 bb
      have C := chainv_any _ R _ _ _ _ _ _ _ HR.out d1 d2 HV.out
      have HC : Hid _ := C
      have n1 : w.heap.size + 1 ≠ w1.heap.size := by omega
      clear a1 a2 hW2 b2 d1 d2 C bw
      go_wp2_with fail
      refine Calls.mono HC.out ?_
      rintro e w3 ⟨rfl, b3⟩
      go_wp2
      go_ret
      exact ⟨rfl, bb.trans (b3.mono bb.size)⟩
end Go.Proofs.Qxb6605627a
