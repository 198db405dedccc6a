/-
  THE PROOF OF 'Rows.FnVXLANInputChainDropsExactlyOutsidersSaid'. The frame is the shell's (proof-skeleton.mjs), its last step given limb by limb ('Below' for 'Grown'); the walk: Qxb6605627aLaw4.
-/
import Derived.Test.Qxb6605627aRows
import Derived.Test.Qxb6605627aLaw4
import Derived.WalkKit
import Derived.ProofKit
import Derived.OpenShut
import Derived.ShutString
import Derived.ChangeOld
import Derived.Below
namespace Go.Proofs.Qxb6605627a.fnVXLANInputChainDropsExactlyOutsiders
open Go.ChangeShapes Go.WideShapes Go.ChangeAt Go.RowKit
open Go.ChangeMaps (open_string shut_string)
set_option linter.unusedVariables false      -- a walk need not use every 'w<i>' (that an integer argument fits its kind)

theorem own : ownKnob Try.prog.godebug = none := by kernel_rfl

def fam_ok (p fam proto dport : Int) : Prop := fam = 1 ∧ proto = 17 ∧ (p = 0 ∨ dport = p)

theorem walk (a0 : Int) (a1 : Int) (a2 : Int) (a3 : Int) (a4 : Bool) (w0 : (Lit.int .u16 a0).wf = true) (w1 : (Lit.int .i64 a1).wf = true) (w2 : (Lit.int .u8 a2).wf = true) (w3 : (Lit.int .u16 a3).wf = true) (w : World) :
    Calls Try.prog 4 #[.int .u16 a0, .int .i64 a1, .int .u8 a2, .int .u16 a3, .bool a4] w fun e w' => e = .returned (.bool true) ∧ Below w.heap.size w w' := by
  obtain ⟨p0, p1⟩ := bounds_u16 w0
  obtain ⟨q0, q1⟩ := bounds_u8 w2
  obtain ⟨d0, d1⟩ := bounds_u16 w3
  refine law4_case (vm a0 a1 a2 a3 a4) a0 a1 a2 a3 a4 p0 p1 w (fun wx => ?_) ?_
  · by_cases hz : a0 = 0
    · subst hz
      cases a4
      · exact verdict_zero_out a1 a2 a3 d0 d1 q0 q1 wx
      · exact verdict_zero_in a1 a2 a3 d0 d1 q0 q1 wx
    · cases a4
      · exact verdict_pos_out a0 a1 a2 a3 (by omega) p1 d0 d1 q0 q1 wx
      · exact verdict_pos_in a0 a1 a2 a3 (by omega) p1 d0 d1 q0 q1 wx
  · by_cases h : fam_ok a0 a1 a2 a3 ∧ a4 = false
    · obtain ⟨⟨h1, h2, h3⟩, rfl⟩ := h
      exact Or.inl ⟨vm_yes a0 a1 a2 a3 h1 h2 h3, h1, h2, h3, rfl⟩
    · refine Or.inr ⟨?_, ?_⟩
      · cases a4
        · exact vm_no a0 a1 a2 a3 (by have : ¬ fam_ok a0 a1 a2 a3 := fun k => h ⟨k, rfl⟩
                                      unfold fam_ok at this; omega)
        · exact vm_in a0 a1 a2 a3
      · cases a4
        · have : ¬ fam_ok a0 a1 a2 a3 := fun k => h ⟨k, rfl⟩
          unfold fam_ok at this
          by_cases e1 : a1 = 1
          · by_cases e2 : a2 = 17
            · exact Or.inr (Or.inr (Or.inl (by omega)))
            · exact Or.inr (Or.inl e2)
          · exact Or.inl e1
        · exact Or.inr (Or.inr (Or.inr rfl))

/-! ### THE ROW's STEP: WRITTEN OUT: LEAVE IT -/
set_option maxRecDepth 100000 in
theorem lifted (os : Os) (started : os.Started) (H : Type) (enc : TypeId × Value → H) :
    ReturnsInHanded {} Try.checked os 4 .any (Rows.fnVXLANInputChainDropsExactlyOutsidersSpec.pre6 enc Try.prog Try.f4 Rows.fnVXLANInputChainDropsExactlyOutsidersRow.domain false) (Rows.fnVXLANInputChainDropsExactlyOutsidersSpec.post enc Try.prog Try.f4 false true false false) := by
  refine returnsInHanded_of_change (C := Try.checked) own started (by kernel_rfl) Try.func4
    (ChangeSpec.witness6 (enc := enc) (C := Try.checked) false ⟨#[], #[.int .u16 0, .int .i64 0, .int .u8 0, .int .u16 0, .bool false], []⟩ 8 (by kernel_rfl) (by kernel_rfl) (by kernel_rfl) (by kernel_rfl)) ?_
  intro W base args ds gs before hval0 hW hcnd _
  have hval : ∀ (j : Nat) t v, Try.f4.params[j]? = some t → args[j]? = some v → Value.okWide Try.prog W .any base t v := hval0
  have hW' := hW
  obtain ⟨p, q, hA0, hV, rfl, hfz, hnd⟩ := hW
  have hA : DataW.TrodAll enc Try.prog W 0 (fun _ => true) true Try.f4.params.toList args.toList ds p := hA0
  rw [Try.params4] at hA hval
  obtain ⟨v0, vs0, d0, ds0, p0, q0, hargs, rfl, rfl, h0, r0⟩ := trodAll_cons hA
  obtain ⟨v1, vs1, d1, ds1, p1, q1, rfl, rfl, rfl, h1, r1⟩ := trodAll_cons r0
  obtain ⟨v2, vs2, d2, ds2, p2, q2, rfl, rfl, rfl, h2, r2⟩ := trodAll_cons r1
  obtain ⟨v3, vs3, d3, ds3, p3, q3, rfl, rfl, rfl, h3, r3⟩ := trodAll_cons r2
  obtain ⟨v4, vs4, d4, ds4, p4, q4, rfl, rfl, rfl, h4, r4⟩ := trodAll_cons r3
  obtain ⟨rfl, rfl, rfl⟩ := trodAll_nil r4
  obtain rfl : args = #[v0, v1, v2, v3, v4] := by cases args; simp_all
  obtain ⟨rfl, rfl⟩ := trodVars_none hV
  obtain ⟨a0, rfl, rfl, rfl, w0⟩ := open_int Try.underlying29 (hval 0 29 v0 rfl rfl) h0
  obtain ⟨a1, rfl, rfl, rfl, w1⟩ := open_int Try.underlying3 (hval 1 3 v1 rfl rfl) h1
  obtain ⟨a2, rfl, rfl, rfl, w2⟩ := open_int Try.underlying5 (hval 2 5 v2 rfl rfl) h2
  obtain ⟨a3, rfl, rfl, rfl, w3⟩ := open_int Try.underlying29 (hval 3 29 v3 rfl rfl) h3
  obtain ⟨a4, rfl, rfl, rfl⟩ := open_bool Try.underlying4 (hval 4 4 v4 rfl rfl) h4
  clear hA0 hval0
  simp only [List.append_nil] at hW'
  refine (walk a0 a1 a2 a3 a4 w0 w1 w2 w3 W).mono fun e W' ⟨he, hg⟩ => ?_
  subst he
  exact ⟨_, rfl, _, _, _, [], [] ++ ([] ++ ([] ++ ([] ++ ([] ++ [])))), [], hW', trodAll_mk1 (shut_bool Try.underlying4 _), (trodAll_cons_mk (shut_int Try.underlying29 w0) (trodAll_cons_mk (shut_int Try.underlying3 w1) (trodAll_cons_mk (shut_int Try.underlying5 w2) (trodAll_cons_mk (shut_int Try.underlying29 w3) (trodAll_cons_mk (shut_bool Try.underlying4 _) trodAll_mk0))))), rfl, hg.frame _, fun h => by cases h⟩

theorem over : Rows.fnVXLANInputChainDropsExactlyOutsidersRow.holds Try.pinned (OpenSpec.ofChange Rows.fnVXLANInputChainDropsExactlyOutsidersSpec) :=
  OpenClaim.holds_of_wide 4 Try.f4 rfl rfl rfl rfl rfl rfl rfl ⟨rfl, rfl, rfl, rfl, rfl⟩ rfl rfl rfl rfl rfl (by kernel_rfl) Try.func4 (by kernel_rfl)
    (of_decide_eq_true (by kernel_rfl)) (by unfold Func.isWrapper; first | (rw [if_pos (by decide +kernel)]; kernel_rfl) | (rw [if_neg (by decide +kernel)]; exact ⟨rfl, rfl⟩))
    (fun os started H enc _ => lifted os started H enc)

/-- ████ THE STATEMENT ████ -/
theorem proved : Rows.FnVXLANInputChainDropsExactlyOutsidersSaid :=
  over
end Go.Proofs.Qxb6605627a.fnVXLANInputChainDropsExactlyOutsiders
