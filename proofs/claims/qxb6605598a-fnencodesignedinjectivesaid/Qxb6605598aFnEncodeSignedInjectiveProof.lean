/-
  THE PROOF OF 'Rows.FnEncodeSignedInjectiveSaid'. The frame is the shell's (proof-skeleton.mjs), 'Kept' in the place of 'Below'; the walk stands here, its contracts in Qxb6605598aBase, Enc, Plain.
-/
import Derived.Test.Qxb6605598aPlain
import Derived.WalkKit
import Derived.ProofKit
import Derived.OpenShut
import Derived.ShutString
import Derived.ChangeOld
import Derived.Below
namespace Go.Proofs.Qxb6605598a.fnEncodeSignedInjective
open Go.ChangeShapes Go.WideShapes Go.ChangeAt Go.RowKit
open Go.ChangeMaps (open_string shut_string)
set_option linter.unusedVariables false

theorem own : ownKnob Try.prog.godebug = none := by kernel_rfl
theorem laidOut : laidOutB Try.prog = true := by kernel_rfl

/-- WHAT THE WALK IS TOLD OF A SLICE OF INTEGERS THAT CAME IN: it is nil; or it leads to a row of 'cap' cells, the numbers 'zs' (the first 'len' are its elements, the rest its spare room), each fitting its kind. -/
def IsRow (k : IntKind) (w : World) (a : Option Addr) (len cap : Nat) (zs : List Int) : Prop :=
  (a = none ∧ len = 0 ∧ cap = 0 ∧ zs = []) ∨
  ∃ x, a = some x ∧ len ≤ cap ∧ cap ≤ maxLen ∧ zs.length = cap ∧ (∀ i, i < zs.length → w.cell? (x.add i) = some (.int k (zs.getD i 0))) ∧ ∀ n ∈ zs, (Lit.int k n).wf = true

/-- The frame of the row, out of 'Kept'. -/
theorem kept_frame {W w' : World} (h : Kept W w') (may : MemPlace → Prop) : W.keptBut w' may :=
  Below.frame (w' := { w' with tape := W.tape }) ⟨h.os, rfl, h.output, h.size, h.block⟩ may
theorem kept_same {W w' : World} (h : Kept W w') {p : MemPlace} (hp : p.block < W.heap.size) : W.sameAt w' p :=
  Below.same (w' := { w' with tape := W.tape }) ⟨h.os, rfl, h.output, h.size, h.block⟩ hp
theorem kept_trod {H : Type} {enc : TypeId × Value → H} {P : Program} {t : TypeId} (hl : laidOutB P = true) (hr : P.readableRec t = true) (hrow : t < P.types.size) {W W' : World} {v : Value} {d : DataW H} {ps : List MemPlace}
    (h : DataW.Trod enc P W 0 (fun _ => true) true t v d ps) (hb : Kept W W') (hlt : ∀ x ∈ ps, x.block < W.heap.size) :
    DataW.Trod enc P W' 0 (fun b => decide (b < W.heap.size)) true t v d ps :=
  WideElems.Trod_stays hl hr hrow h (fun x hx => kept_same hb (hlt x hx)) (fun x hx => by simpa using hlt x hx)

theorem slc_of_row {w : World} {a : Option Addr} {len cap : Nat} {zs : List Int} (h : IsRow .u8 w a len cap zs) : (zs.take len).length = len ∧ Slc w (.slice a len cap) (zs.take len) := by
  rcases h with ⟨rfl, rfl, rfl, rfl⟩ | ⟨x, rfl, hlc, _, hz, hc, _⟩
  · exact ⟨rfl, .inl ⟨rfl, rfl⟩⟩
  · have hl : (zs.take len).length = len := by simp; omega
    refine ⟨hl, .inr ⟨x, cap, by rw [hl], fun j hj => ?_⟩⟩
    rw [hc j (by omega)]
    rw [hl] at hj
    simp [List.getD_eq_getElem?_getD, hj]


set_option maxHeartbeats 2000000 in
set_option maxRecDepth 100000 in
theorem walk_main (a0 a1 a2 a3 : Option Addr) (c0 c1 c2 c3 : Nat) (m1 s1 m2 s2 : List Int) (w : World)
    (q0 : Slc w (.slice a0 m1.length c0) m1) (q1 : Slc w (.slice a1 s1.length c1) s1) (q2 : Slc w (.slice a2 m2.length c2) m2) (q3 : Slc w (.slice a3 s2.length c3) s2)
    (hsum : m1.length + s1.length + m2.length + s2.length ≤ 1048576) :
    Calls Try.prog 4 #[.slice a0 m1.length c0, .slice a1 s1.length c1, .slice a2 m2.length c2, .slice a3 s2.length c3] w fun e w' => e = .returned (.bool true) ∧ Kept w w' := by
  have e1 : decide (m1.length + s1.length + m2.length + s2.length ≤ 1048576) = true := by simpa using hsum
  go_enter Try.func4, Try.ntmps4
  go_wp2_with (go_at_call 12; refine (bytes4_any _ _ _ _ _ _ _ _ _ _ _ _ _).mono ?_; rintro e w' ⟨rfl, hw⟩; subst w')
  refine (clone_any _ m1 _ q0 (by omega)).mono ?_
  rintro e w1 ⟨o1, rfl, f1, k1⟩
  replace q1 := q1.kept k1
  replace q2 := q2.kept k1
  replace q3 := q3.kept k1
  go_wp2_with fail
  refine (clone_any _ s1 _ q1 (by omega)).mono ?_
  rintro e w2 ⟨o2, rfl, f2, k2⟩
  replace f1 := f1.kept k2
  replace q2 := q2.kept k2
  replace q3 := q3.kept k2
  replace k2 := k1.trans k2
  clear k1 q0 q1
  go_wp2_with fail
  refine (clone_any _ m2 _ q2 (by omega)).mono ?_
  rintro e w3 ⟨o3, rfl, f3, k3⟩
  replace f1 := f1.kept k3
  replace f2 := f2.kept k3
  replace q3 := q3.kept k3
  replace k3 := k2.trans k3
  clear k2 q2
  go_wp2_with fail
  refine (clone_any _ s2 _ q3 (by omega)).mono ?_
  rintro e w4 ⟨o4, rfl, f4, k4⟩
  replace f1 := f1.kept k4
  replace f2 := f2.kept k4
  replace f3 := f3.kept k4
  replace k4 := k3.trans k4
  clear k3 q3
  go_wp2_with fail
  refine (zzsigned_any _ _ m1 s1 _ f1 f2 (by omega) (by omega)).mono ?_
  rintro e w5 ⟨g5, p5, rfl, _, _, s5, k5⟩
  replace f1 := f1.kept k5
  replace f2 := f2.kept k5
  replace f3 := f3.kept k5
  replace f4 := f4.kept k5
  replace k5 := k4.trans k5
  clear k4
  go_wp2_with fail
  refine (zzsigned_any _ _ m2 s2 _ f3 f4 (by omega) (by omega)).mono ?_
  rintro e w6 ⟨g6, p6, rfl, _, _, s6, k6⟩
  replace f1 := f1.kept k6
  replace f2 := f2.kept k6
  replace f3 := f3.kept k6
  replace f4 := f4.kept k6
  replace s5 := s5.kept k6
  replace k6 := k5.trans k6
  clear k5
  have n1 := enc_length m1 s1
  have n2 := enc_length m2 s2
  have u1 := Lib.uvarint_length64 (x := m1.length) (by omega)
  have u2 := Lib.uvarint_length64 (x := s1.length) (by omega)
  have u3 := Lib.uvarint_length64 (x := m2.length) (by omega)
  have u4 := Lib.uvarint_length64 (x := s2.length) (by omega)
  have b1 : (enc m1 s1).length ≤ 4194304 := by omega
  have b2 : (enc m2 s2).length ≤ 4194304 := by omega
  have c1 : (enc m1 s1).length ≤ (1 + (Lib.uvarint m1.length).length + m1.length) + (1 + (Lib.uvarint s1.length).length + s1.length) := by omega
  have c1' : (1 + (Lib.uvarint m1.length).length + m1.length) + (1 + (Lib.uvarint s1.length).length + s1.length) ≤ (enc m1 s1).length := by omega
  have c2 : (enc m2 s2).length ≤ (1 + (Lib.uvarint m2.length).length + m2.length) + (1 + (Lib.uvarint s2.length).length + s2.length) := by omega
  have c2' : (1 + (Lib.uvarint m2.length).length + m2.length) + (1 + (Lib.uvarint s2.length).length + s2.length) ≤ (enc m2 s2).length := by omega
  have z2 : (((enc m2 s2).length : Int) == 1 + ((Lib.uvarint m2.length).length : Int) + (m2.length : Int) + (1 + ((Lib.uvarint s2.length).length : Int) + (s2.length : Int))) = true := by rw [beq_iff_eq]; omega
  clear n1 n2
  have key := enc_inj m1 s1 m2 s2
  obtain ⟨x, hx⟩ : ∃ x, x = decide (m1 = m2) := ⟨_, rfl⟩
  obtain ⟨y, hy⟩ : ∃ y, y = decide (s1 = s2) := ⟨_, rfl⟩
  have A1 : Hid (∀ wx, Full wx (.slice o1 m1.length m1.length) m1 → Full wx (.slice o3 m2.length m2.length) m2 → Calls Try.prog 11 #[.slice o1 m1.length m1.length, .slice o3 m2.length m2.length] wx fun e w' => e = .returned (.bool x) ∧ ∃ m, w' = wx.drewN m) := fun wx h1 h2 => by
    rw [hx]; exact eq_any _ _ m1 m2 wx h1.slc h2.slc (by omega) (by omega)
  have A2 : Hid (∀ wx, Full wx (.slice o2 s1.length s1.length) s1 → Full wx (.slice o4 s2.length s2.length) s2 → Calls Try.prog 11 #[.slice o2 s1.length s1.length, .slice o4 s2.length s2.length] wx fun e w' => e = .returned (.bool y) ∧ ∃ m, w' = wx.drewN m) := fun wx h1 h2 => by
    rw [hy]; exact eq_any _ _ s1 s2 wx h1.slc h2.slc (by omega) (by omega)
  have A3 : Hid (∀ wx, Slc wx (.slice (some ⟨g5, 0, none⟩) (enc m1 s1).length p5) (enc m1 s1) → Slc wx (.slice (some ⟨g6, 0, none⟩) (enc m2 s2).length p6) (enc m2 s2) → Calls Try.prog 11 #[.slice (some ⟨g5, 0, none⟩) (enc m1 s1).length p5, .slice (some ⟨g6, 0, none⟩) (enc m2 s2).length p6] wx fun e w' => e = .returned (.bool (x && y)) ∧ ∃ m, w' = wx.drewN m) := fun wx h1 h2 => by
    rw [hx, hy, ← key]; exact eq_any _ _ _ _ wx h1 h2 b1 b2
  clear key hx hy
  cases x
  · replace A3 : Hid (∀ wx, Slc wx (.slice (some ⟨g5, 0, none⟩) (enc m1 s1).length p5) (enc m1 s1) → Slc wx (.slice (some ⟨g6, 0, none⟩) (enc m2 s2).length p6) (enc m2 s2) → Calls Try.prog 11 #[.slice (some ⟨g5, 0, none⟩) (enc m1 s1).length p5, .slice (some ⟨g6, 0, none⟩) (enc m2 s2).length p6] wx fun e w' => e = .returned (.bool false) ∧ ∃ m, w' = wx.drewN m) := fun wx h1 h2 => A3.out wx h1 h2
    go_wp2_with fail
    refine (A1.out _ f1 f3).mono ?_
    rintro e v1 ⟨rfl, t1, hw⟩
    subst v1
    go_wp2_with fail
    refine (A3.out _ (s5.kept ((Kept.refl w6).drewN _)) (s6.kept ((Kept.refl w6).drewN _))).mono ?_
    rintro e v3 ⟨rfl, t3, hw⟩
    subst v3
    go_wp2_with fail
    refine (fieldlen_any m1.length (by omega) _).mono ?_
    rintro e v4 ⟨rfl, hw⟩
    subst v4
    go_wp2_with fail
    refine (fieldlen_any s1.length (by omega) _).mono ?_
    rintro e v4 ⟨rfl, hw⟩
    subst v4
    go_wp2_with fail
    refine (fieldlen_any m2.length (by omega) _).mono ?_
    rintro e v4 ⟨rfl, hw⟩
    subst v4
    go_wp2_with fail
    refine (fieldlen_any s2.length (by omega) _).mono ?_
    rintro e v4 ⟨rfl, hw⟩
    subst v4
    go_wp2_with fail
    go_ret
    exact ⟨rfl, k6.drewN _⟩
  · cases y
    · replace A3 : Hid (∀ wx, Slc wx (.slice (some ⟨g5, 0, none⟩) (enc m1 s1).length p5) (enc m1 s1) → Slc wx (.slice (some ⟨g6, 0, none⟩) (enc m2 s2).length p6) (enc m2 s2) → Calls Try.prog 11 #[.slice (some ⟨g5, 0, none⟩) (enc m1 s1).length p5, .slice (some ⟨g6, 0, none⟩) (enc m2 s2).length p6] wx fun e w' => e = .returned (.bool false) ∧ ∃ m, w' = wx.drewN m) := fun wx h1 h2 => A3.out wx h1 h2
      go_wp2_with fail
      refine (A1.out _ f1 f3).mono ?_
      rintro e v1 ⟨rfl, t1, hw⟩
      subst v1
      go_wp2_with fail
      refine (A2.out _ (f2.kept ((Kept.refl w6).drewN t1)) (f4.kept ((Kept.refl w6).drewN t1))).mono ?_
      rintro e v2 ⟨rfl, t2, hw⟩
      subst v2
      go_wp2_with fail
      refine (A3.out _ (s5.kept ((Kept.refl w6).drewN _)) (s6.kept ((Kept.refl w6).drewN _))).mono ?_
      rintro e v3 ⟨rfl, t3, hw⟩
      subst v3
      go_wp2_with fail
      refine (fieldlen_any m1.length (by omega) _).mono ?_
      rintro e v4 ⟨rfl, hw⟩
      subst v4
      go_wp2_with fail
      refine (fieldlen_any s1.length (by omega) _).mono ?_
      rintro e v4 ⟨rfl, hw⟩
      subst v4
      go_wp2_with fail
      refine (fieldlen_any m2.length (by omega) _).mono ?_
      rintro e v4 ⟨rfl, hw⟩
      subst v4
      go_wp2_with fail
      refine (fieldlen_any s2.length (by omega) _).mono ?_
      rintro e v4 ⟨rfl, hw⟩
      subst v4
      go_wp2_with fail
      go_ret
      exact ⟨rfl, k6.drewN _⟩
    · replace A3 : Hid (∀ wx, Slc wx (.slice (some ⟨g5, 0, none⟩) (enc m1 s1).length p5) (enc m1 s1) → Slc wx (.slice (some ⟨g6, 0, none⟩) (enc m2 s2).length p6) (enc m2 s2) → Calls Try.prog 11 #[.slice (some ⟨g5, 0, none⟩) (enc m1 s1).length p5, .slice (some ⟨g6, 0, none⟩) (enc m2 s2).length p6] wx fun e w' => e = .returned (.bool true) ∧ ∃ m, w' = wx.drewN m) := fun wx h1 h2 => A3.out wx h1 h2
      go_wp2_with fail
      refine (A1.out _ f1 f3).mono ?_
      rintro e v1 ⟨rfl, t1, hw⟩
      subst v1
      go_wp2_with fail
      refine (A2.out _ (f2.kept ((Kept.refl w6).drewN t1)) (f4.kept ((Kept.refl w6).drewN t1))).mono ?_
      rintro e v2 ⟨rfl, t2, hw⟩
      subst v2
      go_wp2_with fail
      refine (A3.out _ (s5.kept ((Kept.refl w6).drewN _)) (s6.kept ((Kept.refl w6).drewN _))).mono ?_
      rintro e v3 ⟨rfl, t3, hw⟩
      subst v3
      go_wp2_with fail
      refine (fieldlen_any m1.length (by omega) _).mono ?_
      rintro e v4 ⟨rfl, hw⟩
      subst v4
      go_wp2_with fail
      refine (fieldlen_any s1.length (by omega) _).mono ?_
      rintro e v4 ⟨rfl, hw⟩
      subst v4
      go_wp2_with fail
      refine (fieldlen_any m2.length (by omega) _).mono ?_
      rintro e v4 ⟨rfl, hw⟩
      subst v4
      go_wp2_with fail
      refine (fieldlen_any s2.length (by omega) _).mono ?_
      rintro e v4 ⟨rfl, hw⟩
      subst v4
      go_wp2_with fail
      go_ret
      exact ⟨rfl, k6.drewN _⟩

set_option maxHeartbeats 1000000 in
set_option maxRecDepth 100000 in
theorem walk (a0 : Option Addr) (len0 cap0 : Nat) (z0 : List Int) (a1 : Option Addr) (len1 cap1 : Nat) (z1 : List Int) (a2 : Option Addr) (len2 cap2 : Nat) (z2 : List Int) (a3 : Option Addr) (len3 cap3 : Nat) (z3 : List Int) (w : World) (w0 : IsRow .u8 w a0 len0 cap0 z0) (w1 : IsRow .u8 w a1 len1 cap1 z1) (w2 : IsRow .u8 w a2 len2 cap2 z2) (w3 : IsRow .u8 w a3 len3 cap3 z3) :
    Calls Try.prog 4 #[.slice a0 len0 cap0, .slice a1 len1 cap1, .slice a2 len2 cap2, .slice a3 len3 cap3] w fun e w' => e = .returned (.bool true) ∧ Kept w w' := by
  obtain ⟨l0, q0⟩ := slc_of_row w0
  obtain ⟨l1, q1⟩ := slc_of_row w1
  obtain ⟨l2, q2⟩ := slc_of_row w2
  obtain ⟨l3, q3⟩ := slc_of_row w3
  by_cases h : len0 + len1 + len2 + len3 ≤ 1048576
  · have := walk_main a0 a1 a2 a3 cap0 cap1 cap2 cap3 (z0.take len0) (z1.take len1) (z2.take len2) (z3.take len3) w (by rw [l0]; exact q0) (by rw [l1]; exact q1) (by rw [l2]; exact q2) (by rw [l3]; exact q3) (by omega)
    rwa [l0, l1, l2, l3] at this
  clear q0 q1 q2 q3 l0 l1 l2 l3 w0 w1 w2 w3
  have e1 : decide (len0 + len1 + len2 + len3 ≤ 1048576) = false := by simpa using h
  clear h
  go_enter Try.func4, Try.ntmps4
  go_wp2_with (go_at_call 12; refine (bytes4_any _ _ _ _ _ _ _ _ _ _ _ _ _).mono ?_; rintro e w' ⟨rfl, hw⟩; subst w')
  go_ret
  exact ⟨rfl, Kept.refl _⟩

/-! ### THE ROW's STEP: WRITTEN OUT: LEAVE IT -/
set_option maxRecDepth 100000 in
theorem lifted (os : Os) (started : os.Started) (H : Type) (enc : TypeId × Value → H) :
    ReturnsInHanded {} Try.checked os 4 .any (Rows.fnEncodeSignedInjectiveSpec.pre6 enc Try.prog Try.f4 Rows.fnEncodeSignedInjectiveRow.domain false) (Rows.fnEncodeSignedInjectiveSpec.post enc Try.prog Try.f4 false true false false) := by
  refine returnsInHanded_of_change (C := Try.checked) own started (by kernel_rfl) Try.func4
    (ChangeSpec.witness6 (enc := enc) (C := Try.checked) false ⟨#[], #[.slice none 0 0, .slice none 0 0, .slice none 0 0, .slice none 0 0], []⟩ 8 (by kernel_rfl) (by kernel_rfl) (by kernel_rfl) (by kernel_rfl)) ?_
  intro W base args ds gs before hval0 hW hcnd _
  have hval : ∀ (j : Nat) t v, Try.f4.params[j]? = some t → args[j]? = some v → Value.okWide Try.prog W .any base t v := hval0
  have hW' := hW
  obtain ⟨p, q, hA0, hV, rfl, hfz, hnd⟩ := hW
  have hA : DataW.TrodAll enc Try.prog W 0 (fun _ => true) true Try.f4.params.toList args.toList ds p := hA0
  rw [Try.params4] at hA hval
  obtain ⟨v0, vs0, d0, ds0, p0, q0, hargs, rfl, rfl, h0, r0⟩ := trodAll_cons hA
  obtain ⟨v1, vs1, d1, ds1, p1, q1, rfl, rfl, rfl, h1, r1⟩ := trodAll_cons r0
  obtain ⟨v2, vs2, d2, ds2, p2, q2, rfl, rfl, rfl, h2, r2⟩ := trodAll_cons r1
  obtain ⟨v3, vs3, d3, ds3, p3, q3, rfl, rfl, rfl, h3, r3⟩ := trodAll_cons r2
  obtain ⟨rfl, rfl, rfl⟩ := trodAll_nil r3
  obtain rfl : args = #[v0, v1, v2, v3] := by cases args; simp_all
  obtain ⟨rfl, rfl⟩ := trodVars_none hV
  obtain ⟨a0, len0, cap0, rfl⟩ := okWide_slice Try.underlying22 (hval 0 22 v0 rfl rfl)
  have k0 := h0
  have lt0 : ∀ x ∈ p0, x.block < W.heap.size := by obtain ⟨m, hm⟩ := k0; exact DataW.trod_lt m _ _ _ hm
  obtain ⟨z0, w0⟩ : ∃ zs, IsRow .u8 W a0 len0 cap0 zs := by
    obtain ⟨fuel, hf⟩ := h0
    rcases open_ints Try.underlying22 Try.underlying5 (by kernel_rfl) hf with ⟨hcs, _⟩ | ⟨x, l, c, zs, hcs, _, hl, hm, hz, _, hcell, hwz⟩
    · simp [Value.cells] at hcs
      obtain ⟨rfl, rfl, rfl⟩ := hcs
      exact ⟨[], .inl ⟨rfl, rfl, rfl, rfl⟩⟩
    · simp [Value.cells] at hcs
      obtain ⟨rfl, rfl, rfl⟩ := hcs
      exact ⟨zs, .inr ⟨_, rfl, hl, hm, by simpa using hz, hcell, hwz⟩⟩
  obtain ⟨a1, len1, cap1, rfl⟩ := okWide_slice Try.underlying22 (hval 1 22 v1 rfl rfl)
  have k1 := h1
  have lt1 : ∀ x ∈ p1, x.block < W.heap.size := by obtain ⟨m, hm⟩ := k1; exact DataW.trod_lt m _ _ _ hm
  obtain ⟨z1, w1⟩ : ∃ zs, IsRow .u8 W a1 len1 cap1 zs := by
    obtain ⟨fuel, hf⟩ := h1
    rcases open_ints Try.underlying22 Try.underlying5 (by kernel_rfl) hf with ⟨hcs, _⟩ | ⟨x, l, c, zs, hcs, _, hl, hm, hz, _, hcell, hwz⟩
    · simp [Value.cells] at hcs
      obtain ⟨rfl, rfl, rfl⟩ := hcs
      exact ⟨[], .inl ⟨rfl, rfl, rfl, rfl⟩⟩
    · simp [Value.cells] at hcs
      obtain ⟨rfl, rfl, rfl⟩ := hcs
      exact ⟨zs, .inr ⟨_, rfl, hl, hm, by simpa using hz, hcell, hwz⟩⟩
  obtain ⟨a2, len2, cap2, rfl⟩ := okWide_slice Try.underlying22 (hval 2 22 v2 rfl rfl)
  have k2 := h2
  have lt2 : ∀ x ∈ p2, x.block < W.heap.size := by obtain ⟨m, hm⟩ := k2; exact DataW.trod_lt m _ _ _ hm
  obtain ⟨z2, w2⟩ : ∃ zs, IsRow .u8 W a2 len2 cap2 zs := by
    obtain ⟨fuel, hf⟩ := h2
    rcases open_ints Try.underlying22 Try.underlying5 (by kernel_rfl) hf with ⟨hcs, _⟩ | ⟨x, l, c, zs, hcs, _, hl, hm, hz, _, hcell, hwz⟩
    · simp [Value.cells] at hcs
      obtain ⟨rfl, rfl, rfl⟩ := hcs
      exact ⟨[], .inl ⟨rfl, rfl, rfl, rfl⟩⟩
    · simp [Value.cells] at hcs
      obtain ⟨rfl, rfl, rfl⟩ := hcs
      exact ⟨zs, .inr ⟨_, rfl, hl, hm, by simpa using hz, hcell, hwz⟩⟩
  obtain ⟨a3, len3, cap3, rfl⟩ := okWide_slice Try.underlying22 (hval 3 22 v3 rfl rfl)
  have k3 := h3
  have lt3 : ∀ x ∈ p3, x.block < W.heap.size := by obtain ⟨m, hm⟩ := k3; exact DataW.trod_lt m _ _ _ hm
  obtain ⟨z3, w3⟩ : ∃ zs, IsRow .u8 W a3 len3 cap3 zs := by
    obtain ⟨fuel, hf⟩ := h3
    rcases open_ints Try.underlying22 Try.underlying5 (by kernel_rfl) hf with ⟨hcs, _⟩ | ⟨x, l, c, zs, hcs, _, hl, hm, hz, _, hcell, hwz⟩
    · simp [Value.cells] at hcs
      obtain ⟨rfl, rfl, rfl⟩ := hcs
      exact ⟨[], .inl ⟨rfl, rfl, rfl, rfl⟩⟩
    · simp [Value.cells] at hcs
      obtain ⟨rfl, rfl, rfl⟩ := hcs
      exact ⟨zs, .inr ⟨_, rfl, hl, hm, by simpa using hz, hcell, hwz⟩⟩
  clear hA0 hval0
  refine (walk a0 len0 cap0 z0 a1 len1 cap1 z1 a2 len2 cap2 z2 a3 len3 cap3 z3 W w0 w1 w2 w3).mono fun e W' ⟨he, bel⟩ => ?_
  subst he
  exact ⟨_, rfl, _, _, _, [], _, [], hW', trodAll_mk1 (shut_bool Try.underlying4 _), (trodAll_cons_mk (kept_trod laidOut (by kernel_rfl) (of_decide_eq_true (by kernel_rfl)) k0 bel lt0) (trodAll_cons_mk (kept_trod laidOut (by kernel_rfl) (of_decide_eq_true (by kernel_rfl)) k1 bel lt1) (trodAll_cons_mk (kept_trod laidOut (by kernel_rfl) (of_decide_eq_true (by kernel_rfl)) k2 bel lt2) (trodAll_cons_mk (kept_trod laidOut (by kernel_rfl) (of_decide_eq_true (by kernel_rfl)) k3 bel lt3) trodAll_mk0)))), rfl, kept_frame bel _, fun h => by cases h⟩

theorem over : Rows.fnEncodeSignedInjectiveRow.holds Try.pinned (OpenSpec.ofChange Rows.fnEncodeSignedInjectiveSpec) :=
  OpenClaim.holds_of_wide 4 Try.f4 rfl rfl rfl rfl rfl rfl rfl ⟨rfl, rfl, rfl, rfl, rfl⟩ rfl rfl rfl rfl rfl (by kernel_rfl) Try.func4 (by kernel_rfl)
    (of_decide_eq_true (by kernel_rfl)) (by unfold Func.isWrapper; first | (rw [if_pos (by decide +kernel)]; kernel_rfl) | (rw [if_neg (by decide +kernel)]; exact ⟨rfl, rfl⟩))
    (fun os started H enc _ => lifted os started H enc)

/-- ████ THE STATEMENT ████ -/
theorem proved : Rows.FnEncodeSignedInjectiveSaid := over
end Go.Proofs.Qxb6605598a.fnEncodeSignedInjective
