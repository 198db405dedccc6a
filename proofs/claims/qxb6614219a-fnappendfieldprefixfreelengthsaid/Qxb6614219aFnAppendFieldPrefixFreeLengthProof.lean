/-
  THE PROOF OF 'Rows.FnAppendFieldPrefixFreeLengthSaid' ('example.com/lacework/lacework/zzlaws_root_b1.FnAppendFieldPrefixFreeLength'). The frame is the shell's (proof-skeleton.mjs); the walk and what stands under it: Qxb6614219aClone, Qxb6614219aField and here.
-/
import Derived.Test.Qxb6614219aField
import Derived.WalkKit
import Derived.ProofKit
import Derived.OpenShut
import Derived.ShutString
import Derived.ChangeOld
import Derived.Below
namespace Go.Proofs.Qxb6614219a.fnAppendFieldPrefixFreeLength
open Go.ChangeShapes Go.WideShapes Go.ChangeAt Go.RowKit
open Go.ChangeMaps (open_string shut_string)
set_option linter.unusedVariables false

theorem own : ownKnob Try.prog.godebug = none := by kernel_rfl
theorem laidOut : laidOutB Try.prog = true := by kernel_rfl

/-- WHAT THE WALK IS TOLD OF A SLICE OF INTEGERS THAT CAME IN: it is nil; or it leads to a row of 'cap' cells, the numbers 'zs' (the first 'len' are its elements, the rest its spare room), each fitting its kind. -/
def IsRow (k : IntKind) (w : World) (a : Option Addr) (len cap : Nat) (zs : List Int) : Prop :=
  (a = none ∧ len = 0 ∧ cap = 0 ∧ zs = []) ∨
  ∃ x, a = some x ∧ len ≤ cap ∧ cap ≤ maxLen ∧ zs.length = cap ∧ (∀ i, i < zs.length → w.cell? (x.add i) = some (.int k (zs.getD i 0))) ∧ ∀ n ∈ zs, (Lit.int k n).wf = true


/-- The frame of the row, out of 'Kept'. -/
theorem kept_frame {W w' : World} (h : Kept W w') (may : MemPlace → Prop) : W.keptBut w' may :=
  Below.frame (w' := { w' with tape := W.tape }) ⟨h.os, rfl, h.output, h.size, h.block⟩ may
theorem kept_same {W w' : World} (h : Kept W w') {p : MemPlace} (hp : p.block < W.heap.size) : W.sameAt w' p :=
  Below.same (w' := { w' with tape := W.tape }) ⟨h.os, rfl, h.output, h.size, h.block⟩ hp
theorem kept_trod {H : Type} {enc : TypeId × Value → H} {P : Program} {t : TypeId} (hl : laidOutB P = true) (hr : P.readableRec t = true) (hrow : t < P.types.size) {W W' : World} {v : Value} {d : DataW H} {ps : List MemPlace}
    (h : DataW.Trod enc P W 0 (fun _ => true) true t v d ps) (hb : Kept W W') (hlt : ∀ x ∈ ps, x.block < W.heap.size) :
    DataW.Trod enc P W' 0 (fun b => decide (b < W.heap.size)) true t v d ps :=
  WideElems.Trod_stays hl hr hrow h (fun x hx => kept_same hb (hlt x hx)) (fun x hx => by simpa using hlt x hx)

theorem slc_of_row {w : World} {a : Option Addr} {len cap : Nat} {zs : List Int} (h : IsRow .u8 w a len cap zs) : (zs.take len).length = len ∧ Slc w (.slice a len cap) (zs.take len) := by
  rcases h with ⟨rfl, rfl, rfl, rfl⟩ | ⟨x, rfl, hlc, _, hz, hc, _⟩
  · exact ⟨rfl, .inl ⟨rfl, rfl⟩⟩
  · have hl : (zs.take len).length = len := by simp; omega
    refine ⟨hl, .inr ⟨x, cap, by rw [hl], fun j hj => ?_⟩⟩
    rw [hc j (by omega)]
    rw [hl] at hj
    simp [List.getD_eq_getElem?_getD, hj]

theorem clone_v (v : Value) (xs : List Int) (w : World) (h : Slc w v xs) (hn : xs.length ≤ 1048576) :
    Calls Try.prog 23 #[v] w fun e w' => ∃ ao, e = .returned (.slice ao xs.length xs.length) ∧ Full w' (.slice ao xs.length xs.length) xs ∧ Kept w w' :=
  (clone_any v xs w h hn).mono fun e w' ⟨v', he, hf, hk⟩ => by
    obtain ⟨ao, b, rfl, _⟩ := hf.came
    exact ⟨ao, he, hf, hk⟩

theorem field_v (bv fv : Value) (bs fs : List Int) (w : World) (hb : Full w bv bs) (hf : Full w fv fs) (h1 : bs.length ≤ 1048576) (h2 : fs.length ≤ 1048576) :
    Calls Try.prog 24 #[bv, fv] w fun e w' => ∃ ao n cap, e = .returned (.slice ao n cap) ∧ Hid (n = bs.length + (Lib.uvarint fs.length).length + fs.length) ∧ Slc w' (.slice ao n cap) (bs ++ uvz fs.length ++ fs) ∧ Kept w w' :=
  (zzfield_any bv fv bs fs w hb hf h1 h2).mono fun e w' ⟨v', he, hf, hk⟩ => by
    have hs := slc_of_owns hf
    obtain ⟨a, c, rfl⟩ := hs.val
    exact ⟨a, _, c, he, show _ = _ by simp [uvz_length]; omega, hs, hk⟩

set_option maxHeartbeats 1000000 in
set_option maxRecDepth 100000 in
theorem walk_main (a0 : Option Addr) (cap0 : Nat) (bs : List Int) (a1 : Option Addr) (cap1 : Nat) (fs : List Int) (w : World) (s0 : Slc w (.slice a0 bs.length cap0) bs) (s1 : Slc w (.slice a1 fs.length cap1) fs)
    (h0 : bs.length ≤ 524288) (h1 : fs.length ≤ 524288) :
    Calls Try.prog 8 #[.slice a0 bs.length cap0, .slice a1 fs.length cap1] w fun e w' => e = .returned (.bool true) ∧ Kept w w' := by
  have e1 : decide (bs.length + fs.length ≤ 1048576) = true := by simp; omega
  go_enter Try.func8, Try.ntmps8
  go_wp2_with (go_at_call 22; refine (bytes_any _ _ _ _ _ _ _).mono ?_; rintro e w' ⟨rfl, hw⟩; subst w')
  refine (clone_v _ bs _ s0 (by omega)).mono ?_
  rintro e w1 ⟨o1, rfl, f1, k1⟩
  replace s1 := s1.kept k1
  go_wp2_with fail
  refine (clone_v _ fs _ s1 (by omega)).mono ?_
  rintro e w2 ⟨o2, rfl, f2, k2⟩
  replace f1 := f1.kept k2
  replace k2 := k1.trans k2
  clear k1
  clear s1 s0
  go_wp2_with fail
  refine (clone_v _ bs _ f1.slc (by omega)).mono ?_
  rintro e w3 ⟨o3, rfl, f3, k3⟩
  replace f1 := f1.kept k3
  replace f2 := f2.kept k3
  replace k3 := k2.trans k3
  clear k2
  go_wp2_with fail
  refine (clone_v _ fs _ f2.slc (by omega)).mono ?_
  rintro e w4 ⟨o4, rfl, f4, k4⟩
  replace f1 := f1.kept k4
  replace f2 := f2.kept k4
  replace f3 := f3.kept k4
  replace k4 := k3.trans k4
  clear k3
  go_wp2_with fail
  refine (field_v _ _ bs fs _ f3 f4 (by omega) (by omega)).mono ?_
  rintro e w5 ⟨o5, n5, c5, rfl, e5, s5, k5⟩
  replace f1 := f1.kept k5
  replace f2 := f2.kept k5
  replace k5 := k4.trans k5
  clear k4
  clear f3 f4
  go_wp2_with fail
  refine (clone_v _ fs _ f2.slc (by omega)).mono ?_
  rintro e w6 ⟨o6, rfl, f6, k6⟩
  replace f1 := f1.kept k6
  replace f2 := f2.kept k6
  replace s5 := s5.kept k6
  replace k6 := k5.trans k6
  clear k5
  go_wp2_with fail
  refine (field_v _ _ [] fs _ (.inl ⟨rfl, rfl⟩) f6 (by simp) (by omega)).mono ?_
  rintro e w7 ⟨o7, n7, c7, rfl, e7, s7, k7⟩
  replace f1 := f1.kept k7
  replace f2 := f2.kept k7
  replace s5 := s5.kept k7
  replace k7 := k6.trans k7
  clear k6
  clear f6
  have u1 := Lib.uvarint_length64 (x := fs.length) (by omega)
  have l5 : (bs ++ uvz fs.length ++ fs).length = bs.length + (Lib.uvarint fs.length).length + fs.length := by simp [uvz_length]; omega
  have l7 : ([] ++ uvz fs.length ++ fs).length = (Lib.uvarint fs.length).length + fs.length := by simp [uvz_length]
  have b5 : n5 ≤ bs.length + (Lib.uvarint fs.length).length + fs.length := Nat.le_of_eq e5.out
  have b5' : bs.length + (Lib.uvarint fs.length).length + fs.length ≤ n5 := Nat.le_of_eq e5.out.symm
  have b7 : n7 ≤ (Lib.uvarint fs.length).length + fs.length := by have := e7.out; simp at this; omega
  have b7' : (Lib.uvarint fs.length).length + fs.length ≤ n7 := by have := e7.out; simp at this; omega
  have L5 : Hid _ := l5
  have L7 : Hid _ := l7
  clear l5 l7
  go_wp2_with (first
    | (go_at_call 25; refine (uvlen_any fs.length (by omega) _).mono ?_; rintro e w8 ⟨rfl, hw⟩; subst w8)
    | fail)
  have c1 := same_any _ _ (bs ++ uvz fs.length ++ fs) bs 0 w7 s5 f1.slc (by rw [L5.out]; omega) (by rw [L5.out]; omega) (fun j hj => by simp [List.getD_eq_getElem?_getD, List.append_assoc, List.getElem?_append_left hj])
  rw [show ((0 : Nat) : Int) = 0 from rfl] at c1
  refine c1.mono ?_
  rintro e w8 ⟨rfl, m8, hw⟩
  subst w8
  replace s5 := s5.kept ((Kept.refl w7).drewN m8)
  replace s7 := s7.kept ((Kept.refl w7).drewN m8)
  go_wp2_with fail
  refine (same_any _ _ (bs ++ uvz fs.length ++ fs) ([] ++ uvz fs.length ++ fs) bs.length _ s5 s7 (by rw [L5.out]; omega) (by rw [L5.out, L7.out]; omega) (fun j hj => by simp [List.getD_eq_getElem?_getD, List.append_assoc, List.getElem?_append_right])).mono ?_
  rintro e w9 ⟨rfl, m9, hw⟩
  subst w9
  go_wp2
  go_ret
  exact ⟨rfl, k7.drewN _⟩

set_option maxHeartbeats 1000000 in
set_option maxRecDepth 100000 in
theorem walk (a0 : Option Addr) (len0 cap0 : Nat) (z0 : List Int) (a1 : Option Addr) (len1 cap1 : Nat) (z1 : List Int) (w : World) (w0 : IsRow .u8 w a0 len0 cap0 z0) (w1 : IsRow .u8 w a1 len1 cap1 z1) :
    Calls Try.prog 8 #[.slice a0 len0 cap0, .slice a1 len1 cap1] w fun e w' => e = .returned (.bool true) ∧ Kept w w' := by
  obtain ⟨l0, s0⟩ := slc_of_row w0
  obtain ⟨l1, s1⟩ := slc_of_row w1
  by_cases h : len0 ≤ 524288 ∧ len1 ≤ 524288
  · have := walk_main a0 cap0 (z0.take len0) a1 cap1 (z1.take len1) w (by rw [l0]; exact s0) (by rw [l1]; exact s1) (by omega) (by omega)
    rwa [l0, l1] at this
  clear s0 s1 l0 l1 w0 w1
  by_cases h2 : len0 + len1 ≤ 1048576
  · have e1 : decide (len0 + len1 ≤ 1048576) = true := by simpa using h2
    by_cases h3 : len0 ≤ 524288
    · have h4 : ¬ len1 ≤ 524288 := fun x => h ⟨h3, x⟩
      clear h
      go_enter Try.func8, Try.ntmps8
      go_wp2_with (go_at_call 22; refine (bytes_any _ _ _ _ _ _ _).mono ?_; rintro e w' ⟨rfl, hw⟩; subst w')
      go_ret
      exact ⟨rfl, Kept.refl _⟩
    · clear h
      go_enter Try.func8, Try.ntmps8
      go_wp2_with (go_at_call 22; refine (bytes_any _ _ _ _ _ _ _).mono ?_; rintro e w' ⟨rfl, hw⟩; subst w')
      go_ret
      exact ⟨rfl, Kept.refl _⟩
  · have e1 : decide (len0 + len1 ≤ 1048576) = false := by simpa using h2
    clear h
    go_enter Try.func8, Try.ntmps8
    go_wp2_with (go_at_call 22; refine (bytes_any _ _ _ _ _ _ _).mono ?_; rintro e w' ⟨rfl, hw⟩; subst w')
    go_ret
    exact ⟨rfl, Kept.refl _⟩

/-! ### THE ROW's STEP: WRITTEN OUT: LEAVE IT -/
set_option maxRecDepth 100000 in
theorem lifted (os : Os) (started : os.Started) (H : Type) (enc : TypeId × Value → H) :
    ReturnsInHanded {} Try.checked os 8 .any (Rows.fnAppendFieldPrefixFreeLengthSpec.pre6 enc Try.prog Try.f8 Rows.fnAppendFieldPrefixFreeLengthRow.domain false) (Rows.fnAppendFieldPrefixFreeLengthSpec.post enc Try.prog Try.f8 false true false false) := by
  refine returnsInHanded_of_change (C := Try.checked) own started (by kernel_rfl) Try.func8
    (ChangeSpec.witness6 (enc := enc) (C := Try.checked) false ⟨#[], #[.slice none 0 0, .slice none 0 0], []⟩ 8 (by kernel_rfl) (by kernel_rfl) (by kernel_rfl) (by kernel_rfl)) ?_
  intro W base args ds gs before hval0 hW hcnd _
  have hval : ∀ (j : Nat) t v, Try.f8.params[j]? = some t → args[j]? = some v → Value.okWide Try.prog W .any base t v := hval0
  have hW' := hW
  obtain ⟨p, q, hA0, hV, rfl, hfz, hnd⟩ := hW
  have hA : DataW.TrodAll enc Try.prog W 0 (fun _ => true) true Try.f8.params.toList args.toList ds p := hA0
  rw [Try.params8] at hA hval
  obtain ⟨v0, vs0, d0, ds0, p0, q0, hargs, rfl, rfl, h0, r0⟩ := trodAll_cons hA
  obtain ⟨v1, vs1, d1, ds1, p1, q1, rfl, rfl, rfl, h1, r1⟩ := trodAll_cons r0
  obtain ⟨rfl, rfl, rfl⟩ := trodAll_nil r1
  obtain rfl : args = #[v0, v1] := by cases args; simp_all
  obtain ⟨rfl, rfl⟩ := trodVars_none hV
  obtain ⟨a0, len0, cap0, rfl⟩ := okWide_slice Try.underlying43 (hval 0 43 v0 rfl rfl)
  have k0 := h0
  have lt0 : ∀ x ∈ p0, x.block < W.heap.size := by obtain ⟨m, hm⟩ := k0; exact DataW.trod_lt m _ _ _ hm
  obtain ⟨z0, w0⟩ : ∃ zs, IsRow .u8 W a0 len0 cap0 zs := by
    obtain ⟨fuel, hf⟩ := h0
    rcases open_ints Try.underlying43 Try.underlying5 (by kernel_rfl) hf with ⟨hcs, _⟩ | ⟨x, l, c, zs, hcs, _, hl, hm, hz, _, hcell, hwz⟩
    · simp [Value.cells] at hcs
      obtain ⟨rfl, rfl, rfl⟩ := hcs
      exact ⟨[], .inl ⟨rfl, rfl, rfl, rfl⟩⟩
    · simp [Value.cells] at hcs
      obtain ⟨rfl, rfl, rfl⟩ := hcs
      exact ⟨zs, .inr ⟨_, rfl, hl, hm, by simpa using hz, hcell, hwz⟩⟩
  obtain ⟨a1, len1, cap1, rfl⟩ := okWide_slice Try.underlying43 (hval 1 43 v1 rfl rfl)
  have k1 := h1
  have lt1 : ∀ x ∈ p1, x.block < W.heap.size := by obtain ⟨m, hm⟩ := k1; exact DataW.trod_lt m _ _ _ hm
  obtain ⟨z1, w1⟩ : ∃ zs, IsRow .u8 W a1 len1 cap1 zs := by
    obtain ⟨fuel, hf⟩ := h1
    rcases open_ints Try.underlying43 Try.underlying5 (by kernel_rfl) hf with ⟨hcs, _⟩ | ⟨x, l, c, zs, hcs, _, hl, hm, hz, _, hcell, hwz⟩
    · simp [Value.cells] at hcs
      obtain ⟨rfl, rfl, rfl⟩ := hcs
      exact ⟨[], .inl ⟨rfl, rfl, rfl, rfl⟩⟩
    · simp [Value.cells] at hcs
      obtain ⟨rfl, rfl, rfl⟩ := hcs
      exact ⟨zs, .inr ⟨_, rfl, hl, hm, by simpa using hz, hcell, hwz⟩⟩
  clear hA0 hval0
  refine (walk a0 len0 cap0 z0 a1 len1 cap1 z1 W w0 w1).mono fun e W' ⟨he, bel⟩ => ?_
  subst he
  exact ⟨_, rfl, _, _, _, [], _, [], hW', trodAll_mk1 (shut_bool Try.underlying4 _), (trodAll_cons_mk (kept_trod laidOut (by kernel_rfl) (of_decide_eq_true (by kernel_rfl)) k0 bel lt0) (trodAll_cons_mk (kept_trod laidOut (by kernel_rfl) (of_decide_eq_true (by kernel_rfl)) k1 bel lt1) trodAll_mk0)), rfl, kept_frame bel _, fun h => by cases h⟩

theorem over : Rows.fnAppendFieldPrefixFreeLengthRow.holds Try.pinned (OpenSpec.ofChange Rows.fnAppendFieldPrefixFreeLengthSpec) :=
  OpenClaim.holds_of_wide 8 Try.f8 rfl rfl rfl rfl rfl rfl rfl ⟨rfl, rfl, rfl, rfl, rfl⟩ rfl rfl rfl rfl rfl (by kernel_rfl) Try.func8 (by kernel_rfl)
    (of_decide_eq_true (by kernel_rfl)) (by unfold Func.isWrapper; first | (rw [if_pos (by decide +kernel)]; kernel_rfl) | (rw [if_neg (by decide +kernel)]; exact ⟨rfl, rfl⟩))
    (fun os started H enc _ => lifted os started H enc)

/-- ████ THE STATEMENT ████ -/
theorem proved : Rows.FnAppendFieldPrefixFreeLengthSaid := over
end Go.Proofs.Qxb6614219a.fnAppendFieldPrefixFreeLength
