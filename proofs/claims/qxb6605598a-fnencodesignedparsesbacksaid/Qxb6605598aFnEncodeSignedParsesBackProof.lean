/-
  THE PROOF OF 'Rows.FnEncodeSignedParsesBackSaid'. The frame is the shell's (proof-skeleton.mjs), 'Kept' in the place of 'Below'; the walk stands here, its contracts in Qxb6605598aBase, Enc, Plain, Read.
-/
import Derived.Test.Qxb6605598aRead
import Derived.WalkKit
import Derived.ProofKit
import Derived.OpenShut
import Derived.ShutString
import Derived.ChangeOld
import Derived.Below
namespace Go.Proofs.Qxb6605598a.fnEncodeSignedParsesBack
open Go.ChangeShapes Go.WideShapes Go.ChangeAt Go.RowKit
open Go.ChangeMaps (open_string shut_string)
set_option linter.unusedVariables false

theorem own : ownKnob Try.prog.godebug = none := by kernel_rfl
theorem laidOut : laidOutB Try.prog = true := by kernel_rfl

/-- WHAT THE WALK IS TOLD OF A SLICE OF INTEGERS THAT CAME IN: it is nil; or it leads to a row of 'cap' cells, the numbers 'zs' (the first 'len' are its elements, the rest its spare room), each fitting its kind. -/
def IsRow (k : IntKind) (w : World) (a : Option Addr) (len cap : Nat) (zs : List Int) : Prop :=
  (a = none ∧ len = 0 ∧ cap = 0 ∧ zs = []) ∨
  ∃ x, a = some x ∧ len ≤ cap ∧ cap ≤ maxLen ∧ zs.length = cap ∧ (∀ i, i < zs.length → w.cell? (x.add i) = some (.int k (zs.getD i 0))) ∧ ∀ n ∈ zs, (Lit.int k n).wf = true

/-- The frame of the row, out of 'Kept'. -/
theorem kept_frame {W w' : World} (h : Kept W w') (may : MemPlace → Prop) : W.keptBut w' may :=
  Below.frame (w' := { w' with tape := W.tape }) ⟨h.os, rfl, h.output, h.size, h.block⟩ may
theorem kept_same {W w' : World} (h : Kept W w') {p : MemPlace} (hp : p.block < W.heap.size) : W.sameAt w' p :=
  Below.same (w' := { w' with tape := W.tape }) ⟨h.os, rfl, h.output, h.size, h.block⟩ hp
theorem kept_trod {H : Type} {enc : TypeId × Value → H} {P : Program} {t : TypeId} (hl : laidOutB P = true) (hr : P.readableRec t = true) (hrow : t < P.types.size) {W W' : World} {v : Value} {d : DataW H} {ps : List MemPlace}
    (h : DataW.Trod enc P W 0 (fun _ => true) true t v d ps) (hb : Kept W W') (hlt : ∀ x ∈ ps, x.block < W.heap.size) :
    DataW.Trod enc P W' 0 (fun b => decide (b < W.heap.size)) true t v d ps :=
  WideElems.Trod_stays hl hr hrow h (fun x hx => kept_same hb (hlt x hx)) (fun x hx => by simpa using hlt x hx)

theorem slc_of_row {w : World} {a : Option Addr} {len cap : Nat} {zs : List Int} (h : IsRow .u8 w a len cap zs) : (zs.take len).length = len ∧ Slc w (.slice a len cap) (zs.take len) := by
  rcases h with ⟨rfl, rfl, rfl, rfl⟩ | ⟨x, rfl, hlc, _, hz, hc, _⟩
  · exact ⟨rfl, .inl ⟨rfl, rfl⟩⟩
  · have hl : (zs.take len).length = len := by simp; omega
    refine ⟨hl, .inr ⟨x, cap, by rw [hl], fun j hj => ?_⟩⟩
    rw [hc j (by omega)]
    rw [hl] at hj
    simp [List.getD_eq_getElem?_getD, hj]


set_option maxHeartbeats 2000000 in
set_option maxRecDepth 100000 in
theorem walk_main (a0 a1 : Option Addr) (c0 c1 : Nat) (ms ss : List Int) (w : World) (q0 : Slc w (.slice a0 ms.length c0) ms) (q1 : Slc w (.slice a1 ss.length c1) ss) (hsum : ms.length + ss.length ≤ 1048576) :
    Calls Try.prog 3 #[.slice a0 ms.length c0, .slice a1 ss.length c1] w fun e w' => e = .returned (.bool true) ∧ Kept w w' := by
  have e1 : decide (ms.length + ss.length ≤ 1048576) = true := by simpa using hsum
  go_enter Try.func3, Try.ntmps3
  go_wp2_with (go_at_call 7; refine (bytes2_any _ _ _ _ _ _ _).mono ?_; rintro e w' ⟨rfl, hw⟩; subst w')
  refine (clone_any _ ms _ q0 (by omega)).mono ?_
  rintro e w1 ⟨o1, rfl, f1, k1⟩
  replace q1 := q1.kept k1
  go_wp2_with fail
  refine (clone_any _ ss _ q1 (by omega)).mono ?_
  rintro e w2 ⟨o2, rfl, f2, k2⟩
  replace f1 := f1.kept k2
  replace k2 := k1.trans k2
  clear k1 q0 q1
  go_wp2_with fail
  refine (zzsigned_any _ _ ms ss _ f1 f2 (by omega) (by omega)).mono ?_
  rintro e w5 ⟨g, cap, rfl, hnc, hcm, s5, k5⟩
  replace f1 := f1.kept k5
  replace f2 := f2.kept k5
  replace k5 := k2.trans k5
  clear k2
  have n1 := enc_length ms ss
  have u1 := Lib.uvarint_length64 (x := ms.length) (by omega)
  have u2 := Lib.uvarint_length64 (x := ss.length) (by omega)
  have b1 : (enc ms ss).length ≤ 4194304 := by omega
  have hl : (fld 10 ms).length + (fld 18 ss).length = (enc ms ss).length := by simp [enc]
  obtain ⟨t, ht⟩ : ∃ t, t = (fld 10 ms).length := ⟨_, rfl⟩
  obtain ⟨t', ht'⟩ : ∃ t', t' = (fld 10 ms).length + (fld 18 ss).length := ⟨_, rfl⟩
  have r1 : Hid (Calls Try.prog 10 #[.slice (some ⟨g, 0, none⟩) (enc ms ss).length cap, .int .i64 0] w5 fun e w' => ∃ a c, e = .returned (.tuple #[.int .u64 1, .int .u64 2, .int .u64 0, .slice (some a) ms.length c, .int .i64 (t : Int), .bool true]) ∧
      Slc w' (.slice (some a) ms.length c) ms ∧ ∃ q, w' = w5.drewN q) := by
    have := read_field 1 10 (.inl ⟨rfl, rfl⟩) g cap 0 (enc ms ss) [] ms (fld 18 ss) w5 (by simp [enc]) rfl b1 (by omega) hnc hcm s5
    rw [Nat.zero_add, ← ht] at this
    exact this
  have r2 : Hid (∀ q, Calls Try.prog 10 #[.slice (some ⟨g, 0, none⟩) (enc ms ss).length cap, .int .i64 (t : Int)] (w5.drewN q) fun e w' => ∃ a c, e = .returned (.tuple #[.int .u64 2, .int .u64 2, .int .u64 0, .slice (some a) ss.length c, .int .i64 (t' : Int), .bool true]) ∧
      Slc w' (.slice (some a) ss.length c) ss ∧ ∃ q', w' = (w5.drewN q).drewN q') := fun q => by
    have := read_field 2 18 (.inr ⟨rfl, rfl⟩) g cap t (enc ms ss) (fld 10 ms) ss [] (w5.drewN q) (by simp [enc]) ht.symm b1 (by omega) hnc hcm (s5.kept ((Kept.refl w5).drewN q))
    rw [ht, ← ht'] at this
    rw [ht]
    exact this
  have m1 : decide (ms = ms) = true := by simp
  have m2 : decide (ss = ss) = true := by simp
  have E1 : Hid (∀ (v : Value) wx, Slc wx v ms → Full wx (.slice o1 ms.length ms.length) ms → Calls Try.prog 11 #[v, .slice o1 ms.length ms.length] wx fun e w' => e = .returned (.bool true) ∧ ∃ m, w' = wx.drewN m) := fun v wx h1 h2 => by
    rw [← m1]; exact eq_any _ _ ms ms wx h1 h2.slc (by omega) (by omega)
  have E2 : Hid (∀ (v : Value) wx, Slc wx v ss → Full wx (.slice o2 ss.length ss.length) ss → Calls Try.prog 11 #[v, .slice o2 ss.length ss.length] wx fun e w' => e = .returned (.bool true) ∧ ∃ m, w' = wx.drewN m) := fun v wx h1 h2 => by
    rw [← m2]; exact eq_any _ _ ss ss wx h1 h2.slc (by omega) (by omega)
  have z : ((t' : Int) == ((enc ms ss).length : Int)) = true := by rw [beq_iff_eq]; omega
  have bt : t ≤ 4194304 := by omega
  have bt' : t' ≤ 4194304 := by omega
  clear n1 hl ht ht' m1 m2
  go_wp2_with fail
  refine r1.out.mono ?_
  rintro e w6 ⟨a6, c6, rfl, s6, q6, hw⟩
  subst w6
  go_wp2_with fail
  refine (E1.out _ _ s6 (f1.kept ((Kept.refl w5).drewN q6))).mono ?_
  rintro e w7 ⟨rfl, q7, hw⟩
  subst w7
  go_wp2_with fail
  refine (r2.out _).mono ?_
  rintro e w8 ⟨a8, c8, rfl, s8, q8, hw⟩
  subst w8
  rw [World.drewN_drewN] at s8
  go_wp2_with fail
  refine (E2.out _ _ s8 (f2.kept ((Kept.refl w5).drewN _))).mono ?_
  rintro e w9 ⟨rfl, q9, hw⟩
  subst w9
  go_wp2
  go_ret
  exact ⟨rfl, k5.drewN _⟩

set_option maxHeartbeats 1000000 in
set_option maxRecDepth 100000 in
theorem walk (a0 : Option Addr) (len0 cap0 : Nat) (z0 : List Int) (a1 : Option Addr) (len1 cap1 : Nat) (z1 : List Int) (w : World) (w0 : IsRow .u8 w a0 len0 cap0 z0) (w1 : IsRow .u8 w a1 len1 cap1 z1) :
    Calls Try.prog 3 #[.slice a0 len0 cap0, .slice a1 len1 cap1] w fun e w' => e = .returned (.bool true) ∧ Kept w w' := by
  obtain ⟨l0, q0⟩ := slc_of_row w0
  obtain ⟨l1, q1⟩ := slc_of_row w1
  by_cases h : len0 + len1 ≤ 1048576
  · have := walk_main a0 a1 cap0 cap1 (z0.take len0) (z1.take len1) w (by rw [l0]; exact q0) (by rw [l1]; exact q1) (by omega)
    rwa [l0, l1] at this
  clear q0 q1 l0 l1 w0 w1
  have e1 : decide (len0 + len1 ≤ 1048576) = false := by simpa using h
  clear h
  go_enter Try.func3, Try.ntmps3
  go_wp2_with (go_at_call 7; refine (bytes2_any _ _ _ _ _ _ _).mono ?_; rintro e w' ⟨rfl, hw⟩; subst w')
  go_ret
  exact ⟨rfl, Kept.refl _⟩

/-! ### THE ROW's STEP: WRITTEN OUT: LEAVE IT -/
set_option maxRecDepth 100000 in
theorem lifted (os : Os) (started : os.Started) (H : Type) (enc : TypeId × Value → H) :
    ReturnsInHanded {} Try.checked os 3 .any (Rows.fnEncodeSignedParsesBackSpec.pre6 enc Try.prog Try.f3 Rows.fnEncodeSignedParsesBackRow.domain false) (Rows.fnEncodeSignedParsesBackSpec.post enc Try.prog Try.f3 false true false false) := by
  refine returnsInHanded_of_change (C := Try.checked) own started (by kernel_rfl) Try.func3
    (ChangeSpec.witness6 (enc := enc) (C := Try.checked) false ⟨#[], #[.slice none 0 0, .slice none 0 0], []⟩ 8 (by kernel_rfl) (by kernel_rfl) (by kernel_rfl) (by kernel_rfl)) ?_
  intro W base args ds gs before hval0 hW hcnd _
  have hval : ∀ (j : Nat) t v, Try.f3.params[j]? = some t → args[j]? = some v → Value.okWide Try.prog W .any base t v := hval0
  have hW' := hW
  obtain ⟨p, q, hA0, hV, rfl, hfz, hnd⟩ := hW
  have hA : DataW.TrodAll enc Try.prog W 0 (fun _ => true) true Try.f3.params.toList args.toList ds p := hA0
  rw [Try.params3] at hA hval
  obtain ⟨v0, vs0, d0, ds0, p0, q0, hargs, rfl, rfl, h0, r0⟩ := trodAll_cons hA
  obtain ⟨v1, vs1, d1, ds1, p1, q1, rfl, rfl, rfl, h1, r1⟩ := trodAll_cons r0
  obtain ⟨rfl, rfl, rfl⟩ := trodAll_nil r1
  obtain rfl : args = #[v0, v1] := by cases args; simp_all
  obtain ⟨rfl, rfl⟩ := trodVars_none hV
  obtain ⟨a0, len0, cap0, rfl⟩ := okWide_slice Try.underlying22 (hval 0 22 v0 rfl rfl)
  have k0 := h0
  have lt0 : ∀ x ∈ p0, x.block < W.heap.size := by obtain ⟨m, hm⟩ := k0; exact DataW.trod_lt m _ _ _ hm
  obtain ⟨z0, w0⟩ : ∃ zs, IsRow .u8 W a0 len0 cap0 zs := by
    obtain ⟨fuel, hf⟩ := h0
    rcases open_ints Try.underlying22 Try.underlying5 (by kernel_rfl) hf with ⟨hcs, _⟩ | ⟨x, l, c, zs, hcs, _, hl, hm, hz, _, hcell, hwz⟩
    · simp [Value.cells] at hcs
      obtain ⟨rfl, rfl, rfl⟩ := hcs
      exact ⟨[], .inl ⟨rfl, rfl, rfl, rfl⟩⟩
    · simp [Value.cells] at hcs
      obtain ⟨rfl, rfl, rfl⟩ := hcs
      exact ⟨zs, .inr ⟨_, rfl, hl, hm, by simpa using hz, hcell, hwz⟩⟩
  obtain ⟨a1, len1, cap1, rfl⟩ := okWide_slice Try.underlying22 (hval 1 22 v1 rfl rfl)
  have k1 := h1
  have lt1 : ∀ x ∈ p1, x.block < W.heap.size := by obtain ⟨m, hm⟩ := k1; exact DataW.trod_lt m _ _ _ hm
  obtain ⟨z1, w1⟩ : ∃ zs, IsRow .u8 W a1 len1 cap1 zs := by
    obtain ⟨fuel, hf⟩ := h1
    rcases open_ints Try.underlying22 Try.underlying5 (by kernel_rfl) hf with ⟨hcs, _⟩ | ⟨x, l, c, zs, hcs, _, hl, hm, hz, _, hcell, hwz⟩
    · simp [Value.cells] at hcs
      obtain ⟨rfl, rfl, rfl⟩ := hcs
      exact ⟨[], .inl ⟨rfl, rfl, rfl, rfl⟩⟩
    · simp [Value.cells] at hcs
      obtain ⟨rfl, rfl, rfl⟩ := hcs
      exact ⟨zs, .inr ⟨_, rfl, hl, hm, by simpa using hz, hcell, hwz⟩⟩
  clear hA0 hval0
  refine (walk a0 len0 cap0 z0 a1 len1 cap1 z1 W w0 w1).mono fun e W' ⟨he, bel⟩ => ?_
  subst he
  exact ⟨_, rfl, _, _, _, [], _, [], hW', trodAll_mk1 (shut_bool Try.underlying4 _), (trodAll_cons_mk (kept_trod laidOut (by kernel_rfl) (of_decide_eq_true (by kernel_rfl)) k0 bel lt0) (trodAll_cons_mk (kept_trod laidOut (by kernel_rfl) (of_decide_eq_true (by kernel_rfl)) k1 bel lt1) trodAll_mk0)), rfl, kept_frame bel _, fun h => by cases h⟩

theorem over : Rows.fnEncodeSignedParsesBackRow.holds Try.pinned (OpenSpec.ofChange Rows.fnEncodeSignedParsesBackSpec) :=
  OpenClaim.holds_of_wide 3 Try.f3 rfl rfl rfl rfl rfl rfl rfl ⟨rfl, rfl, rfl, rfl, rfl⟩ rfl rfl rfl rfl rfl (by kernel_rfl) Try.func3 (by kernel_rfl)
    (of_decide_eq_true (by kernel_rfl)) (by unfold Func.isWrapper; first | (rw [if_pos (by decide +kernel)]; kernel_rfl) | (rw [if_neg (by decide +kernel)]; exact ⟨rfl, rfl⟩))
    (fun os started H enc _ => lifted os started H enc)

/-- ████ THE STATEMENT ████ -/
theorem proved : Rows.FnEncodeSignedParsesBackSaid := over
end Go.Proofs.Qxb6605598a.fnEncodeSignedParsesBack
