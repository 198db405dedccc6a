/-
  'ID.sub', 'ZZsubID', 'shiftedID' at shift 0, 'IDFromUint64', on numbers below 2 ^ 160.
-/
import Derived.Test.Qxb6614219aIds2
import Derived.Test.Qxb6614219aNum
namespace Go.Proofs.Qxb6614219a
open Go.RowKit
set_option linter.unusedVariables false
set_option linter.unusedSimpArgs false

/-- The identifier of a number: its cells. -/
def idC (N : Nat) : List Value := Lib.byteCells (Lib.beBytes 20 N)
theorem idC_length (N : Nat) : (idC N).length = 20 := by rw [idC, Lib.byteCells_length, Lib.beBytes_length]
theorem idC_one (N : Nat) : ∀ v ∈ idC N, v.oneCell' = true := Lib.byteCells_one _

theorem words_num (N : Nat) (hN : N < 1461501637330902918203684832716283019655932542976) (w : World) :
    Calls Try.prog 36 #[.agg (idC N).toArray] w fun e w' =>
      e = .returned (.agg #[.int .u32 ((N / 340282366920938463463374607431768211456 : Nat) : Int), .int .u64 ((N / 18446744073709551616 % 18446744073709551616 : Nat) : Int), .int .u64 ((N % 18446744073709551616 : Nat) : Int)]) ∧ Below w.heap.size w w' := by
  have h := words_any (Lib.beBytes 20 N) (Lib.beBytes_length _ _) w
  rw [id_take, id_mid, id_low, Nat.mod_eq_of_lt (show N / 340282366920938463463374607431768211456 < 4294967296 by omega)] at h
  exact h

theorem id_num (hi mid lo : Nat) (h1 : hi < 4294967296) (h2 : mid < 18446744073709551616) (h3 : lo < 18446744073709551616) (w : World) :
    Calls Try.prog 38 #[.agg #[.int .u32 hi, .int .u64 mid, .int .u64 lo]] w fun e w' =>
      e = .returned (.agg (idC (hi * 340282366920938463463374607431768211456 + mid * 18446744073709551616 + lo)).toArray) ∧ Below w.heap.size w w' := by
  have h := id_any hi mid lo h1 h2 h3 w
  rw [id_join _ _ _ h2 h3] at h
  exact h

theorem id_words (N : Nat) (hN : N < 1461501637330902918203684832716283019655932542976) (w : World) :
    Calls Try.prog 38 #[.agg #[.int .u32 ((N / 340282366920938463463374607431768211456 : Nat) : Int), .int .u64 ((N / 18446744073709551616 % 18446744073709551616 : Nat) : Int), .int .u64 ((N % 18446744073709551616 : Nat) : Int)]] w fun e w' =>
      e = .returned (.agg (idC N).toArray) ∧ Below w.heap.size w w' := by
  have h := id_num (N / 340282366920938463463374607431768211456) (N / 18446744073709551616 % 18446744073709551616) (N % 18446744073709551616) (by omega) (by omega) (by omega) w
  rw [show N / 340282366920938463463374607431768211456 * 340282366920938463463374607431768211456 + N / 18446744073709551616 % 18446744073709551616 * 18446744073709551616 + N % 18446744073709551616 = N by omega] at h
  exact h

/-- The words of a difference. -/
theorem minus_num (A B : Nat) (hA : A < 1461501637330902918203684832716283019655932542976) (hB : B < 1461501637330902918203684832716283019655932542976) (w : World) :
    Calls Try.prog 37 #[.agg #[.int .u32 ((A / 340282366920938463463374607431768211456 : Nat) : Int), .int .u64 ((A / 18446744073709551616 % 18446744073709551616 : Nat) : Int), .int .u64 ((A % 18446744073709551616 : Nat) : Int)],
      .agg #[.int .u32 ((B / 340282366920938463463374607431768211456 : Nat) : Int), .int .u64 ((B / 18446744073709551616 % 18446744073709551616 : Nat) : Int), .int .u64 ((B % 18446744073709551616 : Nat) : Int)]] w fun e w' =>
      e = .returned (.agg #[.int .u32 ((subN A B / 340282366920938463463374607431768211456 : Nat) : Int), .int .u64 ((subN A B / 18446744073709551616 % 18446744073709551616 : Nat) : Int), .int .u64 ((subN A B % 18446744073709551616 : Nat) : Int)]) ∧ Below w.heap.size w w' := by
  have h := minus_any ((A / 340282366920938463463374607431768211456 : Nat) : Int) ((A / 18446744073709551616 % 18446744073709551616 : Nat) : Int) ((A % 18446744073709551616 : Nat) : Int)
    ((B / 340282366920938463463374607431768211456 : Nat) : Int) ((B / 18446744073709551616 % 18446744073709551616 : Nat) : Int) ((B % 18446744073709551616 : Nat) : Int)
    (by omega) (by omega) (by omega) (by omega) (by omega) (by omega) (by omega) (by omega) (by omega) (by omega) (by omega) (by omega) w
  have e3 : (((A % 18446744073709551616 : Nat) : Int) - ((B % 18446744073709551616 : Nat) : Int)) % 18446744073709551616 = ((subN A B % 18446744073709551616 : Nat) : Int) := by unfold subN; omega
  have e2 : (((A / 18446744073709551616 % 18446744073709551616 : Nat) : Int) - ((B / 18446744073709551616 % 18446744073709551616 : Nat) : Int) - bor ((A % 18446744073709551616 : Nat) : Int) ((B % 18446744073709551616 : Nat) : Int)) % 18446744073709551616 = ((subN A B / 18446744073709551616 % 18446744073709551616 : Nat) : Int) := by
    unfold subN bor; split <;> omega
  have e1 : (((A / 340282366920938463463374607431768211456 : Nat) : Int) - ((B / 340282366920938463463374607431768211456 : Nat) : Int) - bor ((A / 18446744073709551616 % 18446744073709551616 : Nat) : Int) (((B / 18446744073709551616 % 18446744073709551616 : Nat) : Int) + bor ((A % 18446744073709551616 : Nat) : Int) ((B % 18446744073709551616 : Nat) : Int))) % 4294967296 = ((subN A B / 340282366920938463463374607431768211456 : Nat) : Int) := by
    unfold subN bor; split <;> split <;> omega
  rw [e1, e2, e3] at h
  exact h

theorem info25 (N : Nat) : (Try.prog.info? 25).map (·.size) = some (idC N).length := by rw [idC_length]; kernel_rfl

theorem sizeC (N : Nat) : (idC N).toArray.size = 20 := by simp [idC_length]
theorem infoC (N : Nat) : (Try.prog.info? 25).map (·.size) = some (idC N).toArray.size := by rw [sizeC]; kernel_rfl

/-- What a region over two boxed identifiers and a result's box holds to. -/
def Held (B : Nat) (CA CB : List Value) (w : World) : Prop := w.rangeAt B 0 CA ∧ w.rangeAt (B + 1) 0 CB ∧ w.there (B + 1 + 1) 0 20

theorem range_of {w : World} {g : Nat} {C : List Value} {T : TypeId} (h : w.heap[g]? = some (.cells C.toArray T (0, 0))) : w.rangeAt g 0 C := fun j v hj => by
  simpa [World.cell?, h] using hj
theorem there_of {w : World} {g : Nat} {C : Array Value} {T : TypeId} (h : w.heap[g]? = some (.cells C T (0, 0))) (n : Nat) (hn : n ≤ C.size) : w.there g 0 n := fun j hj => by
  have : j < C.size := by omega
  simp [World.cell?, World.frozen?, h, this]

set_option maxHeartbeats 2000000 in
set_option maxRecDepth 100000 in
theorem sub_any (A B : Nat) (hA : A < 1461501637330902918203684832716283019655932542976) (hB : B < 1461501637330902918203684832716283019655932542976) (w : World) :
    Calls Try.prog 27 #[.agg (idC A).toArray, .agg (idC B).toArray] w fun e w' => e = .returned (.agg (idC (subN A B)).toArray) ∧ Below w.heap.size w w' := by
  have lA := idC_length A
  have lB := idC_length B
  have iA := info25 A
  have iB := info25 B
  have oA := idC_one A
  have oB := idC_one B
  obtain ⟨CA, hCA⟩ : ∃ CA, CA = idC A := ⟨_, rfl⟩
  obtain ⟨CB, hCB⟩ : ∃ CB, CB = idC B := ⟨_, rfl⟩
  have HA : Hid (CA = idC A) := hCA
  have HB : Hid (CB = idC B) := hCB
  rw [← hCA] at lA iA oA
  rw [← hCB] at lB iB oB
  rw [← hCA, ← hCB]
  clear hCA hCB
  have hu := Try.underlying25
  obtain ⟨W0, hW0⟩ : ∃ W0, W0 = (((w.alloc (Obj.cells CA.toArray 25)).alloc (Obj.cells CB.toArray 25)).alloc (Obj.cells #[Value.int IntKind.u8 0, Value.int IntKind.u8 0, Value.int IntKind.u8 0, Value.int IntKind.u8 0, Value.int IntKind.u8 0, Value.int IntKind.u8 0, Value.int IntKind.u8 0, Value.int IntKind.u8 0, Value.int IntKind.u8 0, Value.int IntKind.u8 0, Value.int IntKind.u8 0, Value.int IntKind.u8 0, Value.int IntKind.u8 0, Value.int IntKind.u8 0, Value.int IntKind.u8 0, Value.int IntKind.u8 0, Value.int IntKind.u8 0, Value.int IntKind.u8 0, Value.int IntKind.u8 0, Value.int IntKind.u8 0] 25)) := ⟨_, rfl⟩
  have bw : Below w.heap.size w W0 := by rw [hW0]; exact (((Below.refl _ _).alloc (Nat.le_refl _) _).alloc (by simp) _).alloc (by simp; omega) _
  have g0 : W0.heap[w.heap.size]? = some (.cells CA.toArray 25 (0, 0)) := by
    rw [hW0, Below.heap_alloc _ _ _ (by simp; omega), Below.heap_alloc _ _ _ (by simp)]; exact heap_alloc_new w _
  have g1 : W0.heap[w.heap.size + 1]? = some (.cells CB.toArray 25 (0, 0)) := by
    rw [hW0, Below.heap_alloc _ _ _ (by simp)]
    have := heap_alloc_new (w.alloc (Obj.cells CA.toArray 25)) (Obj.cells CB.toArray 25)
    simpa using this
  have g2 : W0.heap[w.heap.size + 1 + 1]? = some (.cells #[Value.int IntKind.u8 0, Value.int IntKind.u8 0, Value.int IntKind.u8 0, Value.int IntKind.u8 0, Value.int IntKind.u8 0, Value.int IntKind.u8 0, Value.int IntKind.u8 0, Value.int IntKind.u8 0, Value.int IntKind.u8 0, Value.int IntKind.u8 0, Value.int IntKind.u8 0, Value.int IntKind.u8 0, Value.int IntKind.u8 0, Value.int IntKind.u8 0, Value.int IntKind.u8 0, Value.int IntKind.u8 0, Value.int IntKind.u8 0, Value.int IntKind.u8 0, Value.int IntKind.u8 0, Value.int IntKind.u8 0] 25 (0, 0)) := by
    rw [hW0]
    have := heap_alloc_new ((w.alloc (Obj.cells CA.toArray 25)).alloc (Obj.cells CB.toArray 25)) (Obj.cells #[Value.int IntKind.u8 0, Value.int IntKind.u8 0, Value.int IntKind.u8 0, Value.int IntKind.u8 0, Value.int IntKind.u8 0, Value.int IntKind.u8 0, Value.int IntKind.u8 0, Value.int IntKind.u8 0, Value.int IntKind.u8 0, Value.int IntKind.u8 0, Value.int IntKind.u8 0, Value.int IntKind.u8 0, Value.int IntKind.u8 0, Value.int IntKind.u8 0, Value.int IntKind.u8 0, Value.int IntKind.u8 0, Value.int IntKind.u8 0, Value.int IntKind.u8 0, Value.int IntKind.u8 0, Value.int IntKind.u8 0] 25)
    simpa using this
  have KS : Hid (∀ w', Below W0.heap.size W0 w' → Held w.heap.size CA CB w') := fun w' h => by
    have a0 := (h.block _ (lt_of_some g0)).trans g0
    have a1 := (h.block _ (lt_of_some g1)).trans g1
    have a2 := (h.block _ (lt_of_some g2)).trans g2
    exact ⟨range_of a0, range_of a1, there_of a2 20 (Nat.le_refl _)⟩
  have KT : Hid (∀ w' D, Held w.heap.size CA CB w' → Held w.heap.size CA CB (w'.setCells (w.heap.size + 1 + 1) 0 D)) := fun w' D h =>
    ⟨World.rangeAt_setCells_apart h.1 _ _ _ (.inl (by omega)), World.rangeAt_setCells_apart h.2.1 _ _ _ (.inl (by omega)), World.there_setCells h.2.2 _ _ _⟩
  have HW : Hid (W0 = (((w.alloc (Obj.cells CA.toArray 25)).alloc (Obj.cells CB.toArray 25)).alloc (Obj.cells #[Value.int IntKind.u8 0, Value.int IntKind.u8 0, Value.int IntKind.u8 0, Value.int IntKind.u8 0, Value.int IntKind.u8 0, Value.int IntKind.u8 0, Value.int IntKind.u8 0, Value.int IntKind.u8 0, Value.int IntKind.u8 0, Value.int IntKind.u8 0, Value.int IntKind.u8 0, Value.int IntKind.u8 0, Value.int IntKind.u8 0, Value.int IntKind.u8 0, Value.int IntKind.u8 0, Value.int IntKind.u8 0, Value.int IntKind.u8 0, Value.int IntKind.u8 0, Value.int IntKind.u8 0, Value.int IntKind.u8 0] 25))) := hW0
  have G2 : Hid _ := g2
  clear hW0 g0 g1 g2
  have b0 : Below W0.heap.size W0 W0.drew := (Below.refl _ W0).drew
  have s0 := KS.out _ b0
  go_enter Try.func27, Try.ntmps27
  go_wp2
  rw [← HW.out]
  refine wp_region_noPanic ?_
  refine wp_region_held_drew (S := Held w.heap.size CA CB) (by kernel_rfl) s0 (fun hHeld => ?_)
  refine wpAnyH_take (i := 0) (v := .agg CA.toArray) rfl (by kernel_rfl) (by kernel_rfl) (by kernel_rfl) (fun _ _ _ h => h) (yieldsIf_load_mid (by rfl) _ _ rfl w.heap.size 0 rfl CA _ (fun _ h => h.1) hu rfl iA) hHeld ?_
  refine wpAnyH_take (i := 2) (v := .agg CB.toArray) rfl (by kernel_rfl) (by kernel_rfl) (by kernel_rfl) (fun _ _ _ h => h) (yieldsIf_load_mid (by rfl) _ _ rfl (w.heap.size + 1) 0 rfl CB _ (fun _ h => h.2.1) hu rfl iB) hHeld ?_
  try simp only [Act.put, List.setIfInBounds_toArray, List.set_cons_zero, List.set_cons_succ]
  refine wpAnyH_ready (rs := [1]) (by kernel_rfl) (by simp) ?_
  refine AllReadyH.cons rfl (fun K hK => ?_) AllReadyH.nil
  go_simp
  rw [HA.out]
  refine (words_num A hA _).mono ?_
  rintro e w1 ⟨rfl, hb⟩
  have b1 : Below W0.heap.size W0 w1 := b0.trans (hb.mono b0.size)
  clear hb
  refine hK.out _ _ (KS.out _ b1) (fun hHeld => ?_)
  clear hK K
  try simp only [Act.put, List.setIfInBounds_toArray, List.set_cons_zero, List.set_cons_succ]
  refine wpAnyH_ready (rs := [3]) (by kernel_rfl) (by simp) ?_
  refine AllReadyH.cons rfl (fun K hK => ?_) AllReadyH.nil
  go_simp
  rw [HB.out]
  refine (words_num B hB _).mono ?_
  rintro e w2 ⟨rfl, hb⟩
  have b2 : Below W0.heap.size W0 w2 := b1.trans (hb.mono b1.size)
  clear hb
  refine hK.out _ _ (KS.out _ b2) (fun hHeld => ?_)
  clear hK K
  try simp only [Act.put, List.setIfInBounds_toArray, List.set_cons_zero, List.set_cons_succ]
  refine wpAnyH_ready (rs := [4]) (by kernel_rfl) (by simp) ?_
  refine AllReadyH.cons rfl (fun K hK => ?_) AllReadyH.nil
  go_simp
  refine (minus_num A B hA hB _).mono ?_
  rintro e w3 ⟨rfl, hb⟩
  have b3 : Below W0.heap.size W0 w3 := b2.trans (hb.mono b2.size)
  clear hb
  refine hK.out _ _ (KS.out _ b3) (fun hHeld => ?_)
  clear hK K
  try simp only [Act.put, List.setIfInBounds_toArray, List.set_cons_zero, List.set_cons_succ]
  refine wpAnyH_ready (rs := [5]) (by kernel_rfl) (by simp) ?_
  refine AllReadyH.cons rfl (fun K hK => ?_) AllReadyH.nil
  go_simp
  refine (id_words (subN A B) (subN_lt A B) _).mono ?_
  rintro e w4 ⟨rfl, hb⟩
  have b4 : Below W0.heap.size W0 w4 := b3.trans (hb.mono b3.size)
  clear hb
  refine hK.out _ _ (KS.out _ b4) (fun hHeld => ?_)
  clear hK K
  try simp only [Act.put, List.setIfInBounds_toArray, List.set_cons_zero, List.set_cons_succ]
  refine wpAnyH_ready (rs := [6]) (by kernel_rfl) (by simp) ?_
  refine AllReadyH.cons rfl (fun K hK => ?_) AllReadyH.nil
  rw [if_pos (by rfl)]
  refine wp_store_mid _ _ _ rfl (w.heap.size + 1 + 1) 0 (idC (subN A B)).toArray rfl rfl (by rw [sizeC]; exact hHeld.2.2) (infoC _) (all_oneCell_toArray (idC_one _)) ?_
  refine hK.out _ _ (KT.out _ _ hHeld) (fun hHeld => ?_)
  clear hK K
  refine wpAnyH_done (by kernel_rfl) (NoPanic.normal ?_) _
  have g4 : w4.heap[w.heap.size + 1 + 1]? = some (.cells #[Value.int IntKind.u8 0, Value.int IntKind.u8 0, Value.int IntKind.u8 0, Value.int IntKind.u8 0, Value.int IntKind.u8 0, Value.int IntKind.u8 0, Value.int IntKind.u8 0, Value.int IntKind.u8 0, Value.int IntKind.u8 0, Value.int IntKind.u8 0, Value.int IntKind.u8 0, Value.int IntKind.u8 0, Value.int IntKind.u8 0, Value.int IntKind.u8 0, Value.int IntKind.u8 0, Value.int IntKind.u8 0, Value.int IntKind.u8 0, Value.int IntKind.u8 0, Value.int IntKind.u8 0, Value.int IntKind.u8 0] 25 (0, 0)) := (b4.block _ (lt_of_some G2.out)).trans G2.out
  have g5 := heap_setCells_same (w.heap.size + 1 + 1) 25 (idC (subN A B)) [] (#[Value.int IntKind.u8 0, Value.int IntKind.u8 0, Value.int IntKind.u8 0, Value.int IntKind.u8 0, Value.int IntKind.u8 0, Value.int IntKind.u8 0, Value.int IntKind.u8 0, Value.int IntKind.u8 0, Value.int IntKind.u8 0, Value.int IntKind.u8 0, Value.int IntKind.u8 0, Value.int IntKind.u8 0, Value.int IntKind.u8 0, Value.int IntKind.u8 0, Value.int IntKind.u8 0, Value.int IntKind.u8 0, Value.int IntKind.u8 0, Value.int IntKind.u8 0, Value.int IntKind.u8 0, Value.int IntKind.u8 0]).toList [] w4 (by simpa using g4) (by rw [idC_length]; rfl)
  rw [List.nil_append, List.append_nil, List.length_nil] at g5
  have bb : Below w.heap.size w (w4.setCells (w.heap.size + 1 + 1) 0 (idC (subN A B))) := (bw.trans (b4.mono bw.size)).trans (Lib.below_setCells_w (by omega) _ _ _)
  rw [List.toList_toArray]
  have G5 : Hid _ := g5
  clear g4 g5
  generalize w4.setCells (w.heap.size + 1 + 1) 0 (idC (subN A B)) = w5 at *
  go_wp2
  refine bodyPost_ret (v := .agg (idC (subN A B)).toArray) ?_ rfl ⟨rfl, bb⟩
  exact results_cell_row Try.results27 _ _ (w.heap.size + 1 + 1) 25 _ (0, 0) _ rfl G5.out Try.underlying25 rfl (infoC _)
end Go.Proofs.Qxb6614219a
