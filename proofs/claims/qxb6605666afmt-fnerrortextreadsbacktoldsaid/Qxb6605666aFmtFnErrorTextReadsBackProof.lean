/-
  THE PROOF OF 'Rows.FnErrorTextReadsBackToldSaid': a TOLD card: fmt's text is told by the authors' own function FmtText.text, not proved from fmt's source. After the guide's 10.14 (worked: Label, TagSeven).
-/
import Derived.Test.Qxb6605666aFmtCards
import Derived.Test.Qxb6605666aFmtText
import Derived.Test.Qxb6605666aFmtPlain
import Derived.Test.Qxb6605666aFmtLaw
import Derived.ProofKit
import Derived.OpenShut
import Derived.ShutString
import Derived.Stop.JoinedAt
import Derived.Stop.Texts
import Derived.Stop.JoinedTold
import Derived.Stop.FmtTextKit
import Derived.SizedLaws
import Derived.SevenToldRow
namespace Go.Proofs.Qxb6605666aFmt.fnErrorTextReadsBack
open Go.ChangeShapes Go.WideShapes Go.ChangeAt Go.RowKit Go.Kit
open Go.ChangeMaps (open_string shut_string)
open Go.Extern.Stop Go.Stop Go.Extern
set_option linter.unusedVariables false

theorem own : ownKnob Tryf.prog.godebug = none := by kernel_rfl

theorem ba_eq {x : ByteArray} {l : List UInt8} (h : x.data.toList = l) : x = { data := l.toArray } := by
  apply ByteArray.ext
  rw [← h]

/-- query.ErrorText, fmt's text told. -/
theorem errorText_told (F : Interp) (n : Nat) (hn : n ≤ 65535) (hw : (Lit.int .u16 (n : Int)).wf = true) (st ms : ByteArray) (hs : st.size + ms.size ≤ 1048576) (w : World) (hF : F.told.answers w.tape) :
    Calls Tryf.prog 5 #[.int .u16 n, .string st, .string ms] w fun e w' => e = .returned (.string (full (Lib.itoa (n : Int)) (st.data.toList ++ [41, 58, 32] ++ ms.data.toList))) ∧
      w' = (w.alloc (.cells #[.iface 22 (.int .u16 n), .iface 9 (.string st), .iface 9 (.string ms)] 20)).drew := by
  refine (errorText_all F.told n st ms w hF).mono ?_
  rintro e w' ⟨rfl, rfl⟩
  have e1 : st.data.toList.length = st.size := by rw [Array.length_toList]; rfl
  have e2 : ms.data.toList.length = ms.size := by rw [Array.length_toList]; rfl
  have e3 := itoa_short n hn
  have ht := told_string F (e_text n st.data.toList ms.data.toList (by omega) (by omega) hw) (by simp only [eText, List.length_append, List.length_cons, List.length_nil]; omega)
  rw [← textOf_list] at ht
  have := ba_eq ht
  rw [this]
  refine ⟨?_, rfl⟩
  simp [full, eText]

theorem walk (F : Interp) (a b : Int) (st ms : ByteArray) (wa : (Lit.int .u16 a).wf = true) (wb : (Lit.int .u16 b).wf = true) (hs : st.size ≤ maxLen) (hm : ms.size ≤ maxLen) (w : World) (hF : F.told.answers w.tape) :
    Calls Tryf.prog 3 #[.int .u16 a, .int .u16 b, .string st, .string ms] w fun e w' => e = .returned (.bool true) ∧ w.Extends w' := by
  obtain ⟨a0, a1⟩ := bounds_u16 wa
  obtain ⟨b0, b1⟩ := bounds_u16 wb
  by_cases h : st.size + ms.size ≤ 1048576
  · obtain ⟨m, rfl⟩ := Int.eq_ofNat_of_zero_le a0
    obtain ⟨n, rfl⟩ := Int.eq_ofNat_of_zero_le b0
    have e1 : st.data.toList.length = st.size := by rw [Array.length_toList]; rfl
    have e2 : ms.data.toList.length = ms.size := by rw [Array.length_toList]; rfl
    have sm := itoa_short m (by omega)
    have sn := itoa_short n (by omega)
    have hr : (st.data.toList ++ [41, 58, 32] ++ ms.data.toList).length ≤ 1048600 := by simp only [List.length_append, List.length_cons, List.length_nil]; omega
    refine (law_short m n st ms _ _ _ _ _ _ a0 a1 b0 b1 h w
      (fun wx hx => errorText_told F m (by omega) wa st ms h wx (by rw [hx]; exact hF))
      (fun wx hx => errorText_told F n (by omega) wb st ms h wx (by rw [hx]; exact hF))
      (fun wx => read_any m (by omega) _ hr wx) (fun wx => read_any n (by omega) _ hr wx)
      (by rw [full_size]; omega) (by rw [full_size]; omega) (by rw [full_size]; omega) (by rw [full_size]; omega)
      (full_tail _ st ms) (full_tail _ st ms) (full_eq m n _)).mono ?_
    rintro e w' ⟨rfl, rfl⟩
    exact ⟨rfl, ((((World.Extends.refl w).alloc _).drew).alloc _).drew⟩
  · refine (law_long a b st ms (by omega) hs hm w).mono ?_
    rintro e w' ⟨rfl, rfl⟩
    exact ⟨rfl, World.Extends.refl _⟩

set_option maxRecDepth 100000 in
theorem lifted (os : Os) (started : os.Started) (H : Type) (enc : TypeId × Value → H) :
    ReturnsInTold none {} Tryf.checked os 3 .any Input.okWide ((OpenSpec.ofChange Rows.fnErrorTextReadsBackSpec).preRow enc Tryf.prog Tryf.f3 [] false []) (fun F => ((OpenSpec.ofChange Rows.fnErrorTextReadsBackSpec).at F).post enc Tryf.prog Tryf.f3 false true false false) (aloneAtReturn Tryf.prog) nothingAlways := by
  refine returnsInTold_of_row (C := Tryf.checked) (s := OpenSpec.ofChange Rows.fnErrorTextReadsBackSpec) (by kernel_rfl) own started (by kernel_rfl) Tryf.func3
    (OpenSpec.witness_stopped (enc := enc) (C := Tryf.checked) false ⟨#[], #[.int .u16 1, .int .u16 1, .string ⟨#[]⟩, .string ⟨#[]⟩], []⟩ 8 (by kernel_rfl) (by kernel_rfl) (by kernel_rfl) (by kernel_rfl)) ?_
  intro F W base args ds gs before _ hF hval0 hW _ _ hsz _ _
  have hval : ∀ (j : Nat) t v, Tryf.f3.params[j]? = some t → args[j]? = some v → Value.okWide Tryf.prog W .any base t v := hval0
  have hW' := hW
  obtain ⟨p, q, hA0, hV, rfl, hfz, hnd⟩ := hW
  have hA : DataW.TrodAll enc Tryf.prog W 0 (fun _ => true) true Tryf.f3.params.toList args.toList ds p := hA0
  rw [Tryf.params3] at hA hval
  obtain ⟨v0, vs0, d0, ds0, p0, q0, hargs, rfl, rfl, h0, r0⟩ := trodAll_cons hA
  obtain ⟨v1, vs1, d1, ds1, p1, q1, rfl, rfl, rfl, h1, r1⟩ := trodAll_cons r0
  obtain ⟨v2, vs2, d2, ds2, p2, q2, rfl, rfl, rfl, h2, r2⟩ := trodAll_cons r1
  obtain ⟨v3, vs3, d3, ds3, p3, q3, rfl, rfl, rfl, h3, r3⟩ := trodAll_cons r2
  obtain ⟨rfl, rfl, rfl⟩ := trodAll_nil r3
  obtain rfl : args = #[v0, v1, v2, v3] := by cases args; simp_all
  obtain ⟨rfl, rfl⟩ := trodVars_none hV
  obtain ⟨a, rfl, rfl, rfl, wa⟩ := open_int Tryf.underlying22 (hval 0 22 v0 rfl rfl) h0
  obtain ⟨b, rfl, rfl, rfl, wb⟩ := open_int Tryf.underlying22 (hval 1 22 v1 rfl rfl) h1
  obtain ⟨st, rfl, rfl, rfl, wst⟩ := open_string Tryf.underlying9 (hval 2 9 v2 rfl rfl) h2
  obtain ⟨ms, rfl, rfl, rfl, wms⟩ := open_string Tryf.underlying9 (hval 3 9 v3 rfl rfl) h3
  clear hA0 hval0
  refine (walk F a b st ms wa wb wst wms W hF).mono fun e W' ⟨he, hx⟩ => ?_
  subst he
  refine ⟨_, rfl, _, _, _, [], [] ++ ([] ++ ([] ++ ([] ++ []))), [], hW', ?_, ?_, rfl, ?_, fun h => by cases h⟩
  · exact trodAll_mk1 (shut_bool Tryf.underlying4 _)
  · exact trodAll_cons_mk (shut_int Tryf.underlying22 wa) (trodAll_cons_mk (shut_int Tryf.underlying22 wb) (trodAll_cons_mk (shut_string Tryf.underlying9 wst) (trodAll_cons_mk (shut_string Tryf.underlying9 wms) trodAll_mk0)))
  · exact World.keptBut_mono (fun _ h => h.elim) (World.keptBut_none_iff.2 ⟨hx.os, hx.output, hx.block⟩)

theorem laidOut : laidOutB Tryf.pinned.checked.prog = true := by kernel_rfl
theorem stops : Tryf.pinned.checked.prog.stops = ["fmt.Sprintf"] := by kernel_rfl
theorem stopKnobs : Tryf.pinned.checked.prog.stopKnobs = [] := by kernel_rfl
theorem quiet (os : Os) : Stop.quiet Tryf.pinned.checked.prog os := by
  intro k hk
  rw [stopKnobs] at hk
  cases hk

/-- ████ THE STATEMENT ████ -/
theorem proved : Rows.FnErrorTextReadsBackToldSaid :=
  Claim7.holds_of_told_any 3 Tryf.f3 "fmt.Sprintf" [] [] _ _ _ (by kernel_rfl) rfl rfl rfl laidOut (by kernel_rfl) rfl ⟨rfl, rfl, rfl, rfl, rfl, rfl, rfl⟩ rfl rfl (by kernel_rfl) (by kernel_rfl) Tryf.func3 (by kernel_rfl)
    (of_decide_eq_true (by kernel_rfl)) (of_decide_eq_true (by kernel_rfl)) stops.symm rfl stopKnobs.symm (by kernel_rfl)
    (by kernel_rfl) (by kernel_rfl) (by kernel_rfl) (by kernel_rfl) (by kernel_rfl) (by kernel_rfl) (by kernel_rfl) (by kernel_rfl) (by kernel_rfl) rfl (by kernel_rfl) rfl rfl
    rfl rfl
    rfl (by kernel_rfl) (by kernel_rfl) (by kernel_rfl) (by decide) (by kernel_rfl)
    (OpenClaim.moreEntering_of (by kernel_rfl) (by kernel_rfl) (by kernel_rfl) (by kernel_rfl) (by kernel_rfl) (by kernel_rfl) (by kernel_rfl) (by kernel_rfl) (by kernel_rfl) (by kernel_rfl))
    ⟨_, WideRow.started_initial, quiet _⟩
    (fun os started _ H enc _ => lifted os started H enc)
end Go.Proofs.Qxb6605666aFmt.fnErrorTextReadsBack
