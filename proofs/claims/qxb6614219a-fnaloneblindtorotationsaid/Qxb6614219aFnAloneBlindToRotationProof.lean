/-
  THE PROOF OF 'Rows.FnAloneBlindToRotationSaid'. No shell was given: the frame is that of the slices' shell (proof-skeleton.mjs), turned to a string, a number and two arrays; the walk: Qxb6614219aLaw3.
-/
import Derived.Test.Qxb6614219aLaw3
import Derived.WalkKit
import Derived.ProofKit
import Derived.OpenShut
import Derived.ShutString
import Derived.ChangeOld
import Derived.Below
namespace Go.Proofs.Qxb6614219a.fnAloneBlindToRotation
open Go.ChangeShapes Go.WideShapes Go.ChangeAt Go.RowKit
open Go.ChangeMaps (open_string shut_string)
set_option linter.unusedVariables false

theorem own : ownKnob Try.prog.godebug = none := by kernel_rfl
theorem laidOut : laidOutB Try.prog = true := by kernel_rfl
theorem cells22 : Try.prog.cellsOf 22 = 20 := by kernel_rfl

/-! ### The walk, at every string -/
set_option maxHeartbeats 1000000 in
set_option maxRecDepth 100000 in
theorem walk (s : ByteArray) (S k X : Nat) (hS : S < 1461501637330902918203684832716283019655932542976) (hk : k < 18446744073709551616) (hX : X < 1461501637330902918203684832716283019655932542976) (hm : s.size ≤ maxLen) (w : World) :
    Calls Try.prog 3 #[.string s, .agg (idC S).toArray, .int .u64 k, .agg (idC X).toArray] w fun e w' => e = .returned (.bool true) ∧ Below w.heap.size w w' := by
  by_cases hs : s.size ≤ 65536
  · exact law3 s S k X hS hk hX hs w
  unfold maxLen at hm
  obtain ⟨e0, e1, be⟩ := two_blocks w (idC S).toArray (idC X).toArray
  have iS := info22C S
  have iX := info22C X
  generalize (idC S).toArray = CS at *
  generalize (idC X).toArray = CX at *
  have E0 : Hid _ := e0
  have E1 : Hid _ := e1
  have IS : Hid _ := iS
  have IX : Hid _ := iX
  clear e0 e1 iS iX
  by_cases hs2 : s.size ≤ 1048576
  · have hb : decide (s.size ≤ 1048576) = true := by simpa using hs2
    go_enter Try.func3, Try.ntmps3
    go_wp2_with (first
      | (refine wpList_load_row rfl 22 (.tmp 5) rfl w.heap.size rfl 22 CS (0, 0) _ E0.out Try.underlying22 rfl IS.out ?_)
      | (refine wpList_load_row rfl 22 (.tmp 7) rfl (w.heap.size + 1) rfl 22 CX (0, 0) _ E1.out Try.underlying22 rfl IX.out ?_)
      | (go_at_call 9; refine (bytes3_any _ _ _ _ _).mono ?_; rintro e w1 ⟨rfl, b1⟩))
    go_ret
    exact ⟨rfl, be.trans (b1.mono be.size)⟩
  · have hb : decide (s.size ≤ 1048576) = false := by simpa using hs2
    go_enter Try.func3, Try.ntmps3
    go_wp2_with (first
      | (refine wpList_load_row rfl 22 (.tmp 5) rfl w.heap.size rfl 22 CS (0, 0) _ E0.out Try.underlying22 rfl IS.out ?_)
      | (refine wpList_load_row rfl 22 (.tmp 7) rfl (w.heap.size + 1) rfl 22 CX (0, 0) _ E1.out Try.underlying22 rfl IX.out ?_)
      | (go_at_call 9; refine (bytes3_any _ _ _ _ _).mono ?_; rintro e w1 ⟨rfl, b1⟩))
    go_ret
    exact ⟨rfl, be.trans (b1.mono be.size)⟩

/-- A cell's byte. -/
def toB : Value → UInt8
  | .int _ z => z.toNat.toUInt8
  | _ => 0

set_option maxRecDepth 100000 in
/-- AN ARRAY OF TWENTY BYTES THAT CAME IN: its cells are those of an identifier's number. -/
theorem open_id {H : Type} {enc : TypeId × Value → H} {W : World} {base b : Nat} {r : Reach} {sp : Nat → Bool} {held : Bool} {v : Value} {d : DataW H} {p : List MemPlace} (hv : Value.okWide Try.prog W r b 22 v)
    (h : DataW.Trod enc Try.prog W base sp held 22 v d p) : ∃ N, N < 1461501637330902918203684832716283019655932542976 ∧ v = .agg (idC N).toArray := by
  have hcs : ∃ cs, v = .agg cs ∧ cs.size = Try.prog.cellsOf 22 := by
    simp only [Value.okWide, Try.underlying22] at hv
    obtain ⟨cs, h1, h2, _⟩ := hv
    exact ⟨cs, h1, h2⟩
  obtain ⟨cs, rfl, hsz⟩ := hcs
  rw [cells22] at hsz
  obtain ⟨fuel, hf⟩ := h
  obtain ⟨xs, m, _, _, _, hlen, hx⟩ := DataW.trod_array Try.underlying22 hf
  have each : ∀ i, i < 20 → ∃ b : UInt8, cs[i]? = some (.int .u8 b.toNat) := by
    intro i hi
    have hxi := hx i hi
    rw [List.getElem?_eq_getElem (by omega)] at hxi
    rw [cells5, Nat.mul_one] at hxi
    obtain ⟨n, hn, _, hwf⟩ := DataW.trod_int Try.underlying5 hxi
    have hb := bounds_u8 hwf
    have hg : cs[i]? = some (.int .u8 n) := by
      have := congrArg (·[0]?) hn
      simpa [Value.cells, hsz, hi] using this
    refine ⟨n.toNat.toUInt8, ?_⟩
    rw [hg, Lib.toUInt8_toNat (by omega), Int.toNat_of_nonneg hb.1]
  have hl0 : ∀ v ∈ cs.toList, Value.int .u8 (toB v).toNat = v := by
    intro v hv
    obtain ⟨i, hi, rfl⟩ := List.mem_iff_getElem.1 hv
    obtain ⟨b, hb⟩ := each i (by simpa [hsz] using hi)
    have hi' : i < cs.size := by simpa using hi
    rw [Array.getElem?_eq_getElem hi'] at hb
    have hb' : cs.toList[i] = .int .u8 b.toNat := by simpa using hb
    rw [hb']
    simp [toB]
  obtain ⟨l, hl1⟩ : ∃ l : List UInt8, l = cs.toList.map toB := ⟨_, rfl⟩
  have ll : l.length = 20 := by rw [hl1]; simpa using hsz
  have hl : cs = (Lib.byteCells l).toArray := by
    rw [hl1, Lib.byteCells, List.map_map]
    have e : cs.toList.map ((fun b : UInt8 => Value.int .u8 b.toNat) ∘ toB) = cs.toList := by
      have := List.map_congr_left (f := (fun b : UInt8 => Value.int .u8 b.toNat) ∘ toB) (g := id) (l := cs.toList) hl0
      rw [this, List.map_id]
    rw [e]
  refine ⟨Lib.beNat l, ?_, ?_⟩
  · have := beNat_lt l
    rwa [ll, pow20] at this
  · have := beBytes_beNat l
    rw [ll] at this
    rw [hl, idC, this]

/-! ### THE ROW's STEP -/
set_option maxRecDepth 100000 in
theorem lifted (os : Os) (started : os.Started) (H : Type) (enc : TypeId × Value → H) :
    ReturnsInHanded {} Try.checked os 3 .any (Rows.fnAloneBlindToRotationSpec.pre6 enc Try.prog Try.f3 Rows.fnAloneBlindToRotationRow.domain false) (Rows.fnAloneBlindToRotationSpec.post enc Try.prog Try.f3 false true false false) := by
  refine returnsInHanded_of_change (C := Try.checked) own started (by kernel_rfl) Try.func3
    (ChangeSpec.witness6 (enc := enc) (C := Try.checked) false ⟨#[], #[.string ByteArray.empty, .agg #[.int .u8 0, .int .u8 0, .int .u8 0, .int .u8 0, .int .u8 0, .int .u8 0, .int .u8 0, .int .u8 0, .int .u8 0, .int .u8 0, .int .u8 0, .int .u8 0, .int .u8 0, .int .u8 0, .int .u8 0, .int .u8 0, .int .u8 0, .int .u8 0, .int .u8 0, .int .u8 0], .int .u64 0, .agg #[.int .u8 0, .int .u8 0, .int .u8 0, .int .u8 0, .int .u8 0, .int .u8 0, .int .u8 0, .int .u8 0, .int .u8 0, .int .u8 0, .int .u8 0, .int .u8 0, .int .u8 0, .int .u8 0, .int .u8 0, .int .u8 0, .int .u8 0, .int .u8 0, .int .u8 0, .int .u8 0]], []⟩ 8 (by kernel_rfl) (by kernel_rfl) (by kernel_rfl) (by kernel_rfl)) ?_
  intro W base args ds gs before hval0 hW hcnd _
  have hval : ∀ (j : Nat) t v, Try.f3.params[j]? = some t → args[j]? = some v → Value.okWide Try.prog W .any base t v := hval0
  have hW' := hW
  obtain ⟨p, q, hA0, hV, rfl, hfz, hnd⟩ := hW
  have hA : DataW.TrodAll enc Try.prog W 0 (fun _ => true) true Try.f3.params.toList args.toList ds p := hA0
  rw [Try.params3] at hA hval
  obtain ⟨v0, vs0, d0, ds0, p0, q0, hargs, rfl, rfl, h0, r0⟩ := trodAll_cons hA
  obtain ⟨v1, vs1, d1, ds1, p1, q1, rfl, rfl, rfl, h1, r1⟩ := trodAll_cons r0
  obtain ⟨v2, vs2, d2, ds2, p2, q2, rfl, rfl, rfl, h2, r2⟩ := trodAll_cons r1
  obtain ⟨v3, vs3, d3, ds3, p3, q3, rfl, rfl, rfl, h3, r3⟩ := trodAll_cons r2
  obtain ⟨rfl, rfl, rfl⟩ := trodAll_nil r3
  obtain rfl : args = #[v0, v1, v2, v3] := by cases args; simp_all
  obtain ⟨rfl, rfl⟩ := trodVars_none hV
  have lt1 : ∀ x ∈ p1, x.block < W.heap.size := by obtain ⟨m, hm⟩ := h1; exact DataW.trod_lt m _ _ _ hm
  have lt3 : ∀ x ∈ p3, x.block < W.heap.size := by obtain ⟨m, hm⟩ := h3; exact DataW.trod_lt m _ _ _ hm
  obtain ⟨s, rfl, rfl, rfl, hs⟩ := open_string Try.underlying9 (hval 0 9 v0 rfl rfl) h0
  obtain ⟨S, hS, rfl⟩ := open_id (hval 1 22 v1 rfl rfl) h1
  obtain ⟨k, rfl, rfl, rfl, wk⟩ := open_int Try.underlying23 (hval 2 23 v2 rfl rfl) h2
  obtain ⟨X, hX, rfl⟩ := open_id (hval 3 22 v3 rfl rfl) h3
  clear hA0 hval0
  have hk := bounds_u64 wk
  obtain ⟨k, rfl⟩ := Int.eq_ofNat_of_zero_le hk.1
  refine (walk s S k X hS (by omega) hX hs W).mono fun e W' ⟨he, bel⟩ => ?_
  subst he
  exact ⟨_, rfl, _, _, _, [], _, [], hW', trodAll_mk1 (shut_bool Try.underlying4 _), (trodAll_cons_mk (shut_string Try.underlying9 hs) (trodAll_cons_mk (Below.trod laidOut (by kernel_rfl) (of_decide_eq_true (by kernel_rfl)) h1 bel lt1) (trodAll_cons_mk (shut_int Try.underlying23 wk) (trodAll_cons_mk (Below.trod laidOut (by kernel_rfl) (of_decide_eq_true (by kernel_rfl)) h3 bel lt3) trodAll_mk0)))), rfl, bel.frame _, fun h => by cases h⟩

theorem over : Rows.fnAloneBlindToRotationRow.holds Try.pinned (OpenSpec.ofChange Rows.fnAloneBlindToRotationSpec) :=
  OpenClaim.holds_of_wide 3 Try.f3 rfl rfl rfl rfl rfl rfl rfl ⟨rfl, rfl, rfl, rfl, rfl⟩ rfl rfl rfl rfl rfl (by kernel_rfl) Try.func3 (by kernel_rfl)
    (of_decide_eq_true (by kernel_rfl)) (by unfold Func.isWrapper; first | (rw [if_pos (by decide +kernel)]; kernel_rfl) | (rw [if_neg (by decide +kernel)]; exact ⟨rfl, rfl⟩))
    (fun os started H enc _ => lifted os started H enc)

/-- ████ THE STATEMENT ████ -/
theorem proved : Rows.FnAloneBlindToRotationSaid := over
end Go.Proofs.Qxb6614219a.fnAloneBlindToRotation
