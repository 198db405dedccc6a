/-
  THE WALK OF 'FnVXLANInputChainPortOnlyAndPeersNamed'.
-/
import Derived.Test.Qxb6605627aLaw4
import Derived.Test.Qxb6605627aParts
import Derived.LaidEqlPtr
import Derived.Deep.Heap
import Derived.Deep.QuietTactic
import Derived.BigQuiet
namespace Go.Proofs.Qxb6605627a
open Go.RowKit
set_option linter.unusedVariables false

/-- Both chains, told by their blocks. -/
structure Two (w X : World) (A B hA rA hB rB : Nat) (RA RB : Array Value) : Prop where
  below : Below w.heap.size w X
  cA : X.heap[A]? = some (.cells #[.pointer (some ⟨hA, 0, none⟩), .slice (some ⟨rA, 0, none⟩) 1 1] 33 (0, 0))
  cB : X.heap[B]? = some (.cells #[.pointer (some ⟨hB, 0, none⟩), .slice (some ⟨rB, 0, none⟩) 1 1] 33 (0, 0))
  kA : X.heap[hA]? = some (.cells #[.int .i64 2, .int .i32 0] 37 (0, 0))
  kB : X.heap[hB]? = some (.cells #[.int .i64 2, .int .i32 0] 37 (0, 0))
  uA : X.heap[rA]? = some (.cells RA 58 (0, 0))
  uB : X.heap[rB]? = some (.cells RB 58 (0, 0))
  ne : hA ≠ hB
  gA : w.heap.size ≤ A
  gB : w.heap.size ≤ B

theorem two_alloc {w U w2 : World} {p : Nat} {A hA rA hB rB : Nat} {RA RB : Array Value} (b1 : Below w.heap.size w U) (hb : Below U.heap.size U w2)
    (cA : U.heap[A]? = some (.cells #[.pointer (some ⟨hA, 0, none⟩), .slice (some ⟨rA, 0, none⟩) 1 1] 33 (0, 0))) (kA : U.heap[hA]? = some (.cells #[.int .i64 2, .int .i32 0] 37 (0, 0))) (uA : U.heap[rA]? = some (.cells RA 58 (0, 0)))
    (kB : w2.heap[hB]? = some (.cells #[.int .i64 2, .int .i32 0] 37 (0, 0))) (uB : w2.heap[rB]? = some (.cells RB 58 (0, 0))) (hn : U.heap.size ≤ hB) (gA : w.heap.size ≤ A) :
    Two w (w2.alloc (.cells #[.pointer (some ⟨hB, 0, none⟩), .slice (some ⟨rB, 0, none⟩) 1 1] 33)) A w2.heap.size hA rA hB rB RA RB := by
  have lA := lt_of_some cA
  have lk := lt_of_some kA
  have lu := lt_of_some uA
  have B2 := b1.trans (hb.mono b1.size)
  exact ⟨B2.alloc B2.size _, cells_alloc ((hb.block _ lA).trans cA) _, heap_alloc_new _ _, cells_alloc ((hb.block _ lk).trans kA) _, cells_alloc kB _, cells_alloc ((hb.block _ lu).trans uA) _, cells_alloc uB _, by omega, gA, B2.size⟩

theorem cell_of {X : World} {b : Nat} {C : Array Value} {t : TypeId} (h : X.heap[b]? = some (.cells C t (0, 0))) (i : Nat) : X.cell? ⟨b, i, none⟩ = C[i]? := by
  simp [World.cell?, h]

theorem size37 : (Try.prog.info? 37).map (·.size) = some 2 := by kernel_rfl
/-- 'a.Hook == b.Hook' at two hooks. -/
theorem hooks_differ {X : World} {a b : Nat} {ca cb : Array Value} {ta tb : TypeId} (hne : a ≠ b) (ha : X.heap[a]? = some (.cells ca ta (0, 0))) (hb : X.heap[b]? = some (.cells cb tb (0, 0))) :
    (binOp .eql 30 (.pointer (some ⟨a, 0, none⟩)) (.pointer (some ⟨b, 0, none⟩))).run Try.prog X = .ok (.bool false) X := by
  obtain ⟨j, hj, hs⟩ := Option.map_eq_some_iff.1 size37
  exact run_eql_ptr_other X (a := ⟨a, 0, none⟩) (b := ⟨b, 0, none⟩) Try.underlying30 hj (by omega) (fun h => hne (congrArg Addr.block h)) ha hb

set_option maxHeartbeats 2000000 in
set_option maxRecDepth 100000 in
theorem neq_rule (q : Int) (wx : World) : (binOp .neq 58 (.agg #[.string { data := #[] }, .bool false, .bool false, .bool false, .int .i64 1, .bool false, .int .u64 0, .int .u64 0, .pointer none, .int .u64 0, .int .u64 0, .pointer none, .string { data := #[] }, .string { data := #[] }, .string { data := #[118, 120, 108, 97, 110, 45, 112, 101, 101, 114, 115] }, .string { data := #[] }, .int .u8 17, .int .u16 q, .int .u16 q, .string { data := #[] }, .int .u32 0, .int .i64 2, .string { data := #[] }, .int .u64 0, .int .u64 0, .pointer none, .int .u16 0]) (.agg #[.string { data := #[] }, .bool false, .bool false, .bool false, .int .i64 1, .bool false, .int .u64 0, .int .u64 0, .pointer none, .int .u64 0, .int .u64 0, .pointer none, .string { data := #[] }, .string { data := #[] }, .string { data := #[118, 120, 108, 97, 110, 45, 112, 101, 101, 114, 115] }, .string { data := #[] }, .int .u8 17, .int .u16 q, .int .u16 q, .string { data := #[] }, .int .u32 0, .int .i64 2, .string { data := #[] }, .int .u64 0, .int .u64 0, .pointer none, .int .u16 0])).run Try.prog wx = .ok (.bool false) wx := by
  have q1 := nil44 9994 wx
  have q2 := nil44 9995 wx
  have q3 := nil44 9996 wx
  have q4 := nil44 9997 wx
  have q5 := nil44 9998 wx
  have q6 := nil44 9993 wx
  go_simp

theorem frozen_of {X : World} {b : Nat} {C : Array Value} {t : TypeId} (h : X.heap[b]? = some (.cells C t (0, 0))) (i : Nat) : X.frozen? ⟨b, i, none⟩ = false := by
  simp [World.frozen?, h]
theorem setCell_heap {X : World} {b : Nat} {C : Array Value} {t : TypeId} (h : X.heap[b]? = some (.cells C t (0, 0))) (i : Nat) (v : Value) : (X.setCell ⟨b, i, none⟩ v).heap[b]? = some (.cells (C.setIfInBounds i v) t (0, 0)) := by
  have hlt : b < X.heap.size := (Array.getElem?_eq_some_iff.1 h).1
  have hv : X.heap[b] = .cells C t (0, 0) := (Array.getElem?_eq_some_iff.1 h).2
  unfold World.setCell
  rw [Array.getElem?_eq_getElem (by simpa using hlt), Array.getElem_modify]
  simp [hv]

/-- The copy of the rule: a block of the call's own, whatever it held at first. -/
structure Copied (W V : World) (R : Array Value) : Prop where
  cell : V.heap[W.heap.size]? = some (.cells R 58 (0, 0))
  old : ∀ k, k < W.heap.size → V.heap[k]? = W.heap[k]?
  os : V.os = W.os
  tape : V.tape = W.tape
  output : V.output = W.output
  size : V.heap.size = W.heap.size + 1

theorem copied_row (W : World) (n : Nat) (Z R : Array Value) : Copied W (((W.drewN n).alloc (.cells Z 58)).setRow W.heap.size R) R := by
  have h : ((W.drewN n).alloc (.cells Z 58)).heap[W.heap.size]? = some (.cells Z 58 (0, 0)) := heap_alloc_new (W.drewN n) _
  refine ⟨setRow_heap _ _ _ _ _ _ h, fun k hk => ?_, rfl, rfl, rfl, ?_⟩
  · rw [setRow_other _ _ _ _ (by omega)]
    exact Below.heap_alloc (W.drewN n) _ k hk
  · simp [World.setRow]
theorem Copied.set {W V : World} {R : Array Value} (h : Copied W V R) (i : Nat) (v : Value) : Copied W (V.setCell ⟨W.heap.size, i, none⟩ v) (R.setIfInBounds i v) := by
  refine ⟨setCell_heap h.cell i v, fun k hk => ?_, h.os, h.tape, h.output, ?_⟩
  · rw [Deep.blk_setCell_other _ _ _ _ (by simp; omega)]
    exact h.old k hk
  · rw [Deep.nblk_setCell]; exact h.size
theorem Copied.drewN {W V : World} {R : Array Value} (h : Copied W V R) (n : Nat) : Copied W (V.drewN n) R := ⟨h.cell, h.old, h.os, h.tape, h.output, h.size⟩
theorem Copied.below {w W V : World} {R : Array Value} (h : Copied W V R) (b : Below w.heap.size w W) : Below w.heap.size w V :=
  b.trans ⟨h.os, h.tape, h.output, by rw [h.size]; omega, fun k hk => h.old k (Nat.lt_of_lt_of_le hk b.size)⟩

/-- A long struct loaded in a quiet region. -/
theorem quiet_load_row {P : Program} {o : Oper} {a : Act} {w : World} {K : Act → Prop} (ty : TypeId) (x : Operand) (ho : o.op = .load ty x)
    (g : Nat) (hx : a.eval x = .pointer (some ⟨g, 0, none⟩)) (t : TypeId) (cs : Array Value) (d : TypeDesc) (hg : w.heap[g]? = some (.cells cs t (0, 0)))
    (hu : P.underlying ty = some d) (hd : (match d with | .struct _ | .array _ _ => true | _ => false) = true) (hi : (P.info? ty).map (·.size) = some cs.size)
    (h : K (a.put o.dst (.agg cs))) : o.quiet P a (fun w' => ∃ n, w' = w.drewN n) K :=
  ⟨.agg cs, fun w' ⟨n, hw⟩ => by
    subst hw
    unfold Oper.quietAt execOp
    simp only [ho, hx, Instr.loadAt, Instr.sureAddr, Sem.run_bind, Sem.run_pure, Result.andThen_ok, run_loadVar_row (w.drewN n) g t ty cs (0, 0) d hg hu hd hi]
    exact ⟨rfl, rfl⟩, h⟩

set_option maxHeartbeats 1000000 in
set_option maxRecDepth 100000 in
theorem law5 (p q : Int) (p0 : 0 ≤ p) (p1 : p ≤ 65535) (q0 : 0 ≤ q) (q1 : q ≤ 65535) (w : World) :
    Calls Try.prog 5 #[.int .u16 p, .int .u16 q] w fun e w' => e = .returned (.bool true) ∧ Below w.heap.size w w' := by
  have T := chain_told p p0 p1 w
  obtain ⟨RA, hRA⟩ : ∃ R : Array Value, R = #[.string { data := #[] }, .bool false, .bool false, .bool false, .int .i64 1, .bool false, .int .u64 0, .int .u64 0, .pointer none, .int .u64 0, .int .u64 0, .pointer none, .string { data := #[] }, .string { data := #[] }, .string { data := #[118, 120, 108, 97, 110, 45, 112, 101, 101, 114, 115] }, .string { data := #[] }, .int .u8 17, .int .u16 p, .int .u16 p, .string { data := #[] }, .int .u32 0, .int .i64 2, .string { data := #[] }, .int .u64 0, .int .u64 0, .pointer none, .int .u16 0] := ⟨_, rfl⟩
  obtain ⟨RB, hRB⟩ : ∃ R : Array Value, R = #[.string { data := #[] }, .bool false, .bool false, .bool false, .int .i64 1, .bool false, .int .u64 0, .int .u64 0, .pointer none, .int .u64 0, .int .u64 0, .pointer none, .string { data := #[] }, .string { data := #[] }, .string { data := #[118, 120, 108, 97, 110, 45, 112, 101, 101, 114, 115] }, .string { data := #[] }, .int .u8 17, .int .u16 q, .int .u16 q, .string { data := #[] }, .int .u32 0, .int .i64 2, .string { data := #[] }, .int .u64 0, .int .u64 0, .pointer none, .int .u16 0] := ⟨_, rfl⟩
  have T2 := fun w => chain_told q q0 q1 w
  rw [← hRA] at T
  simp only [← hRB] at T2
  have HT : Hid _ := T
  have HT2 : Hid _ := T2
  have HRA : Hid _ := hRA
  have HRB : Hid _ := hRB
  clear T T2 hRA hRB
  go_enter Try.func5, Try.ntmps5
  go_wp2_with fail
  refine Calls.mono HT.out ?_
  rintro e w1 ⟨rfl, a1, a2, bw⟩
  go_wp2_with fail
  refine Calls.mono (HT2.out _) ?_
  rintro e w2 ⟨rfl, a3, a4, bw2⟩
  have z1 := bw.size
  have hT := two_alloc (p := 0) (bw.alloc z1 (.cells #[.pointer (some ⟨w.heap.size + 1, 0, none⟩), .slice (some ⟨w.heap.size + 1 + 1, 0, none⟩) 1 1] 33)) bw2 (heap_alloc_new w1 _) (cells_alloc a1 _) (cells_alloc a2 _) a3 a4 (by omega) z1
  simp only [World.size_alloc] at hT
  clear a1 a2 a3 a4 bw bw2 HT HT2
  obtain ⟨W, hW⟩ : ∃ W, W = w2.alloc (.cells #[.pointer (some ⟨w1.heap.size + 1 + 1, 0, none⟩), .slice (some ⟨w1.heap.size + 1 + 1 + 1, 0, none⟩) 1 1] 33) := ⟨_, rfl⟩
  have e0 : W.cell? ⟨w1.heap.size, 0, none⟩ = some (.pointer (some ⟨w.heap.size + 1, 0, none⟩)) := by rw [hW]; exact cell_of hT.cA 0
  have e1 : W.cell? ⟨w1.heap.size, 1, none⟩ = some (.slice (some ⟨w.heap.size + 1 + 1, 0, none⟩) 1 1) := by rw [hW]; exact cell_of hT.cA 1
  have e2 : W.cell? ⟨w2.heap.size, 0, none⟩ = some (.pointer (some ⟨w1.heap.size + 1 + 1, 0, none⟩)) := by rw [hW]; exact cell_of hT.cB 0
  have e3 : W.cell? ⟨w2.heap.size, 1, none⟩ = some (.slice (some ⟨w1.heap.size + 1 + 1 + 1, 0, none⟩) 1 1) := by rw [hW]; exact cell_of hT.cB 1
  have e4 : W.cell? ⟨w.heap.size + 1, 0, none⟩ = some (.int .i64 2) := by rw [hW]; exact cell_of hT.kA 0
  have e5 : W.cell? ⟨w.heap.size + 1, 1, none⟩ = some (.int .i32 0) := by rw [hW]; exact cell_of hT.kA 1
  have e6 : W.cell? ⟨w1.heap.size + 1 + 1, 0, none⟩ = some (.int .i64 2) := by rw [hW]; exact cell_of hT.kB 0
  have e7 : W.cell? ⟨w1.heap.size + 1 + 1, 1, none⟩ = some (.int .i32 0) := by rw [hW]; exact cell_of hT.kB 1
  rw [← hW] at hT
  have e8 := hooks_differ hT.ne hT.kA hT.kB
  have HTT : Hid _ := hT
  rw [hW] at e0 e1 e2 e3 e4 e5 e6 e7 e8
  have HW : Hid _ := hW
  clear hW hT z1
  go_wp2_with fail
  rw [← HW.out] at e0 e1 e2 e3 e4 e5 e6 e7 e8 ⊢
  go_quiet (fail)
  go_wp2_with fail
  have SA : Hid (27 = RA.size) := by show 27 = RA.size; rw [HRA.out]; first | rfl | simp [Value.oneCell']
  have IA : Hid ((Try.prog.info? 58).map (·.size) = some RA.size) := by show (Try.prog.info? 58).map (·.size) = some RA.size; rw [HRA.out]; kernel_rfl
  have OA : Hid (RA.all (·.oneCell') = true) := by show RA.all (·.oneCell') = true; rw [HRA.out]; first | rfl | simp [Value.oneCell']
  have UA : Hid ((W.drewN nq).heap[w.heap.size + 1 + 1]? = some (.cells RA 58 (0, 0))) := HTT.out.uA
  have CV := copied_row W nq #[.string { data := #[] }, .bool false, .bool false, .bool false, .int .i64 0, .bool false, .int .u64 0, .int .u64 0, .pointer none, .int .u64 0, .int .u64 0, .pointer none, .string { data := #[] }, .string { data := #[] }, .string { data := #[] }, .string { data := #[] }, .int .u8 0, .int .u16 0, .int .u16 0, .string { data := #[] }, .int .u32 0, .int .i64 0, .string { data := #[] }, .int .u64 0, .int .u64 0, .pointer none, .int .u16 0] RA
  obtain ⟨V, hV⟩ : ∃ V, V = ((W.drewN nq).alloc (.cells #[.string { data := #[] }, .bool false, .bool false, .bool false, .int .i64 0, .bool false, .int .u64 0, .int .u64 0, .pointer none, .int .u64 0, .int .u64 0, .pointer none, .string { data := #[] }, .string { data := #[] }, .string { data := #[] }, .string { data := #[] }, .int .u8 0, .int .u16 0, .int .u16 0, .string { data := #[] }, .int .u32 0, .int .i64 0, .string { data := #[] }, .int .u64 0, .int .u64 0, .pointer none, .int .u16 0] 58)).setRow W.heap.size RA := ⟨_, rfl⟩
  rw [← hV] at CV
  have HV : Hid _ := hV
  have r17 : RA[17]? = some (.int .u16 p) := by rw [HRA.out]; rfl
  have r18 : RA[18]? = some (.int .u16 p) := by rw [HRA.out]; rfl
  have CV1 := CV.set 17 (.int .u16 q)
  have CV2 := CV1.set 18 (.int .u16 q)
  have hRR : (RA.setIfInBounds 17 (.int .u16 q)).setIfInBounds 18 (.int .u16 q) = RB := by rw [HRA.out, HRB.out]; rfl
  rw [hRR] at CV2
  have f0 : V.cell? ⟨W.heap.size, 17, none⟩ = some (.int .u16 p) := (cell_of CV.cell 17).trans r17
  have f1 : V.cell? ⟨W.heap.size, 18, none⟩ = some (.int .u16 p) := (cell_of CV.cell 18).trans r18
  have f2 := frozen_of CV.cell 17
  have f3 : (V.setCell ⟨W.heap.size, 17, none⟩ (.int .u16 q)).cell? ⟨W.heap.size, 18, none⟩ = some (.int .u16 p) := (cell_of CV1.cell 18).trans (by rw [HRA.out]; rfl)
  have f4 := frozen_of CV1.cell 18
  have HCV : Hid _ := CV
  have HCV2 : Hid _ := CV2
  clear hV CV CV1 CV2 r17 r18 hRR
  refine wp_loop_rounds 2 ?_
  rw [rounds_succ]
  go_wp2_with (first
    | (refine wpList_load_row rfl 58 (.tmp 61) rfl (w.heap.size + 1 + 1) rfl 58 RA (0, 0) _ UA.out Try.underlying58 rfl IA.out ?_)
    | (refine wpList_store_row rfl 58 (.tmp 8) (.tmp 62) rfl W.heap.size RA rfl rfl 58 #[.string { data := #[] }, .bool false, .bool false, .bool false, .int .i64 0, .bool false, .int .u64 0, .int .u64 0, .pointer none, .int .u64 0, .int .u64 0, .pointer none, .string { data := #[] }, .string { data := #[] }, .string { data := #[] }, .string { data := #[] }, .int .u8 0, .int .u16 0, .int .u16 0, .string { data := #[] }, .int .u32 0, .int .i64 0, .string { data := #[] }, .int .u64 0, .int .u64 0, .pointer none, .int .u16 0] (heap_alloc_new (W.drewN nq) _) IA.out SA.out OA.out ?_; rw [← HV.out]))
  have HY0 := HCV2.out
  obtain ⟨Y, hY⟩ : ∃ Y, Y = ((V.setCell ⟨W.heap.size, 17, none⟩ (.int .u16 q)).setCell ⟨W.heap.size, 18, none⟩ (.int .u16 q)) := ⟨_, rfl⟩
  rw [← hY] at HY0 ⊢
  have tA := lt_of_some HTT.out.cA
  have tB := lt_of_some HTT.out.cB
  have tu := lt_of_some HTT.out.uB
  have y0 : Y.cell? ⟨w1.heap.size, 1, none⟩ = some (.slice (some ⟨w.heap.size + 1 + 1, 0, none⟩) 1 1) := cell_of ((HY0.old _ tA).trans HTT.out.cA) 1
  have y1 : Y.cell? ⟨w2.heap.size, 1, none⟩ = some (.slice (some ⟨w1.heap.size + 1 + 1 + 1, 0, none⟩) 1 1) := cell_of ((HY0.old _ tB).trans HTT.out.cB) 1
  have y2 : Y.cell? ⟨W.heap.size, 12, none⟩ = some (.string { data := #[] }) := (cell_of HY0.cell 12).trans (by rw [HRB.out]; rfl)
  have y3 : Y.cell? ⟨W.heap.size, 13, none⟩ = some (.string { data := #[] }) := (cell_of HY0.cell 13).trans (by rw [HRB.out]; rfl)
  have y4 : Y.cell? ⟨W.heap.size, 14, none⟩ = some (.string { data := #[118, 120, 108, 97, 110, 45, 112, 101, 101, 114, 115] }) := (cell_of HY0.cell 14).trans (by rw [HRB.out]; rfl)
  have y5 : Y.cell? ⟨W.heap.size, 15, none⟩ = some (.string { data := #[] }) := (cell_of HY0.cell 15).trans (by rw [HRB.out]; rfl)
  have y6 : Y.cell? ⟨W.heap.size, 19, none⟩ = some (.string { data := #[] }) := (cell_of HY0.cell 19).trans (by rw [HRB.out]; rfl)
  have y7 : Y.cell? ⟨W.heap.size, 22, none⟩ = some (.string { data := #[] }) := (cell_of HY0.cell 22).trans (by rw [HRB.out]; rfl)
  have IB : Hid ((Try.prog.info? 58).map (·.size) = some RB.size) := by show (Try.prog.info? 58).map (·.size) = some RB.size; rw [HRB.out]; kernel_rfl
  have UB : Hid (Y.heap[w1.heap.size + 1 + 1 + 1]? = some (.cells RB 58 (0, 0))) := (HY0.old _ tu).trans HTT.out.uB
  have eC : ∀ wx, (binOp .neq 58 (.agg RB) (.agg RB)).run Try.prog wx = .ok (.bool false) wx := fun wx => by rw [HRB.out]; exact neq_rule q wx
  have HY : Hid _ := HY0
  have bY : Hid _ := HY0.below HTT.out.below
  clear hY HY0 tA tB tu f0 f1 f2 f3 f4 e0 e1 e2 e3 e4 e5 e6 e7 e8 HV HCV HCV2
  refine wp_region_quiet_lit (by kernel_rfl) (by kernel_rfl) ?_
  refine wpQuiet_step (fun K hK => ?_)
  rw [if_pos (by rfl)]
  refine quiet_load_row 58 _ rfl W.heap.size rfl 58 RB _ HY.out.cell Try.underlying58 rfl IB.out (hK _ ?_)
  clear hK K
  iterate 4 quiet_step (fail)
  refine wpQuiet_step (fun K hK => ?_)
  rw [if_pos (by rfl)]
  refine quiet_load_row 58 _ rfl (w1.heap.size + 1 + 1 + 1) rfl 58 RB _ UB.out Try.underlying58 rfl IB.out (hK _ ?_)
  clear hK K
  iterate 1 quiet_step (fail)
  refine wpQuiet_nil ?_
  intro _ hw'
  obtain ⟨nr, hw''⟩ := hw'
  subst hw''
  go_wp2_with fail
  rw [rounds_succ]
  go_wp2_with fail
  refine Calls.mono (transParts _) ?_
  rintro e w3 ⟨b1, b2, rfl, j1, j2, j12, l1, l2, hb⟩
  have u1 := look_peers _ _ _ (l1.alloc (.cells #[.map (some b1), .map (some b2)] 24))
  have u2 := look_peers _ _ _ (l2.alloc (.cells #[.map (some b1), .map (some b2)] 24))
  have bD := (HY.out.drewN nr).below HTT.out.below
  have B3 := bD.trans (hb.mono bD.size)
  have B4 := B3.alloc B3.size (.cells #[.map (some b1), .map (some b2)] 24)
  have HB : Hid _ := B4
  clear l1 l2 hb bD B3 B4 j1 j2 j12 HY bY UB IB HTT eC y2 y3 y4 y5 y6 y7
  go_wp2
  go_ret
  exact ⟨rfl, HB.out⟩
end Go.Proofs.Qxb6605627a
