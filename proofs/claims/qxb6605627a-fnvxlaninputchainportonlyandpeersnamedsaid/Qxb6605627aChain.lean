/-
  'VXLANInputChain', 'zzRuleVerdict', 'zzChainVerdict': a contract each.
-/
import Derived.Test.Qxb6605627aRows
import Derived.WalkKit
import Derived.WalkSpells
import Derived.WalkLawsBesides
import Derived.Laws.Pointers
import Derived.Deep.QuietTactic
import Derived.BigQuiet
namespace Go.Proofs.Qxb6605627a
open Go.RowKit
set_option linter.unusedVariables false

set_option maxHeartbeats 1000000 in
set_option maxRecDepth 100000 in
/-- The chain: a hook, and one rule; each in a block of its own. -/
theorem chain_any (p : Int) (h0 : 0 ≤ p) (h1 : p ≤ 65535) (w : World) :
    Calls Try.prog 11 #[.int .u16 p] w fun e w' => e = .returned (.agg #[.pointer (some ⟨w.heap.size + 1, 0, none⟩), .slice (some ⟨w.heap.size + 1 + 1, 0, none⟩) 1 1]) ∧
      w' = (((w.alloc (Obj.cells #[.pointer (some ⟨w.heap.size + 1, 0, none⟩), .slice (some ⟨w.heap.size + 1 + 1, 0, none⟩) 1 1] 33)).alloc (Obj.cells #[.int .i64 2, .int .i32 0] 37)).alloc (Obj.cells #[.string { data := #[] }, .bool false, .bool false, .bool false, .int .i64 1, .bool false, .int .u64 0, .int .u64 0, .pointer none, .int .u64 0, .int .u64 0, .pointer none, .string { data := #[] }, .string { data := #[] }, .string { data := #[118, 120, 108, 97, 110, 45, 112, 101, 101, 114, 115] }, .string { data := #[] }, .int .u8 17, .int .u16 p, .int .u16 p, .string { data := #[] }, .int .u32 0, .int .i64 2, .string { data := #[] }, .int .u64 0, .int .u64 0, .pointer none, .int .u16 0] 58)) := by
  go_enter Try.func11, Try.ntmps11
  go_wp2
  refine bodyPost_ret (v := .agg #[.pointer (some ⟨w.heap.size + 1, 0, none⟩), .slice (some ⟨w.heap.size + 1 + 1, 0, none⟩) 1 1]) ?_ rfl ⟨rfl, rfl⟩
  simp [results, Try.results11, go_sem]

theorem nil44 (d : Nat) (wx : World) : (Op.equalIn (d + 1) 44 (.pointer none) (.pointer none)).run Try.prog wx = .ok true wx := run_equalIn_pointer_nil wx d 44 none (by kernel_rfl)

/-- Does the rule match? -/
def vm (p fam proto dport : Int) (inP : Bool) : Bool := decide (fam = 1) && decide (proto = 17) && (decide (p = 0) || decide (dport = p)) && !inP

theorem vm_in (p fam proto dport : Int) : vm p fam proto dport true = false := by simp [vm]
theorem vm_no (p fam proto dport : Int) (h : fam ≠ 1 ∨ proto ≠ 17 ∨ (p ≠ 0 ∧ dport ≠ p)) : vm p fam proto dport false = false := by
  rcases h with h | h | ⟨h, h'⟩ <;> simp [vm, *]
theorem vm_yes (p fam proto dport : Int) (h1 : fam = 1) (h2 : proto = 17) (h3 : p = 0 ∨ dport = p) : vm p fam proto dport false = true := by
  rcases h3 with h | h <;> simp [vm, *]
theorem of_ne {a b : Int} (h : (a != b) = true) : b ≠ a := by simp at h; omega
theorem of_eq {a b : Int} (h : (a != b) = false) : b = a := by simp at h; omega

set_option maxHeartbeats 4000000 in
set_option maxRecDepth 100000 in
theorem verdict_pos_out (p fam proto dport : Int) (h0 : 0 < p) (h1 : p ≤ 65535) (h2 : 0 ≤ dport) (h3 : dport ≤ 65535) (h4 : 0 ≤ proto) (h5 : proto ≤ 255) (w : World) :
    Calls Try.prog 14 #[.agg #[.string { data := #[] }, .bool false, .bool false, .bool false, .int .i64 1, .bool false, .int .u64 0, .int .u64 0, .pointer none, .int .u64 0, .int .u64 0, .pointer none, .string { data := #[] }, .string { data := #[] }, .string { data := #[118, 120, 108, 97, 110, 45, 112, 101, 101, 114, 115] }, .string { data := #[] }, .int .u8 17, .int .u16 p, .int .u16 p, .string { data := #[] }, .int .u32 0, .int .i64 2, .string { data := #[] }, .int .u64 0, .int .u64 0, .pointer none, .int .u16 0], .int .i64 fam, .int .u8 proto, .int .u16 dport, .bool false] w fun e w' => e = .returned (.tuple #[.bool (vm p fam proto dport false), .int .i64 2]) ∧ Below w.heap.size w w' := by
  have q1 := fun wx => nil44 9997 wx
  have q2 := fun wx => nil44 9996 wx
  have q3 := fun wx => nil44 9998 wx
  go_enter Try.func14, Try.ntmps14
  go_wp2
  all_goals
    go_ret2
    refine ⟨?_, ((Below.refl _ _).alloc (Nat.le_refl _) _).alloc (by simp) _⟩
    first
      | (have hA : (1 != fam) = true := by assumption
         rw [vm_no _ _ _ _ (.inl (of_ne hA))]; rfl)
      | (have hA : (17 != proto) = true := by assumption
         rw [vm_no _ _ _ _ (.inr (.inl (of_ne hA)))]; rfl)
      | (have hA : (1 != fam) = false := by assumption
         have hB : (17 != proto) = false := by assumption
         have hC : dport ≤ p := by omega
         have hD : p ≤ dport := by omega
         rw [vm_yes _ _ _ _ (of_eq hA) (of_eq hB) (.inr (by omega))]; rfl)
      | (rw [vm_no _ _ _ _ (.inr (.inr ⟨by omega, by omega⟩))]; rfl)

set_option maxHeartbeats 4000000 in
set_option maxRecDepth 100000 in
theorem verdict_pos_in (p fam proto dport : Int) (h0 : 0 < p) (h1 : p ≤ 65535) (h2 : 0 ≤ dport) (h3 : dport ≤ 65535) (h4 : 0 ≤ proto) (h5 : proto ≤ 255) (w : World) :
    Calls Try.prog 14 #[.agg #[.string { data := #[] }, .bool false, .bool false, .bool false, .int .i64 1, .bool false, .int .u64 0, .int .u64 0, .pointer none, .int .u64 0, .int .u64 0, .pointer none, .string { data := #[] }, .string { data := #[] }, .string { data := #[118, 120, 108, 97, 110, 45, 112, 101, 101, 114, 115] }, .string { data := #[] }, .int .u8 17, .int .u16 p, .int .u16 p, .string { data := #[] }, .int .u32 0, .int .i64 2, .string { data := #[] }, .int .u64 0, .int .u64 0, .pointer none, .int .u16 0], .int .i64 fam, .int .u8 proto, .int .u16 dport, .bool true] w fun e w' => e = .returned (.tuple #[.bool (vm p fam proto dport true), .int .i64 2]) ∧ Below w.heap.size w w' := by
  have q1 := fun wx => nil44 9997 wx
  have q2 := fun wx => nil44 9996 wx
  have q3 := fun wx => nil44 9998 wx
  go_enter Try.func14, Try.ntmps14
  go_wp2
  all_goals
    go_ret2
    exact ⟨by rw [vm_in]; rfl, ((Below.refl _ _).alloc (Nat.le_refl _) _).alloc (by simp) _⟩

set_option maxHeartbeats 4000000 in
set_option maxRecDepth 100000 in
theorem verdict_zero_out (fam proto dport : Int) (h2 : 0 ≤ dport) (h3 : dport ≤ 65535) (h4 : 0 ≤ proto) (h5 : proto ≤ 255) (w : World) :
    Calls Try.prog 14 #[.agg #[.string { data := #[] }, .bool false, .bool false, .bool false, .int .i64 1, .bool false, .int .u64 0, .int .u64 0, .pointer none, .int .u64 0, .int .u64 0, .pointer none, .string { data := #[] }, .string { data := #[] }, .string { data := #[118, 120, 108, 97, 110, 45, 112, 101, 101, 114, 115] }, .string { data := #[] }, .int .u8 17, .int .u16 0, .int .u16 0, .string { data := #[] }, .int .u32 0, .int .i64 2, .string { data := #[] }, .int .u64 0, .int .u64 0, .pointer none, .int .u16 0], .int .i64 fam, .int .u8 proto, .int .u16 dport, .bool false] w fun e w' => e = .returned (.tuple #[.bool (vm 0 fam proto dport false), .int .i64 2]) ∧ Below w.heap.size w w' := by
  have q1 := fun wx => nil44 9997 wx
  have q2 := fun wx => nil44 9996 wx
  have q3 := fun wx => nil44 9998 wx
  go_enter Try.func14, Try.ntmps14
  go_wp2
  all_goals
    go_ret2
    refine ⟨?_, ((Below.refl _ _).alloc (Nat.le_refl _) _).alloc (by simp) _⟩
    first
      | (have hA : (1 != fam) = true := by assumption
         rw [vm_no _ _ _ _ (.inl (of_ne hA))]; rfl)
      | (have hA : (17 != proto) = true := by assumption
         rw [vm_no _ _ _ _ (.inr (.inl (of_ne hA)))]; rfl)
      | (have hA : (1 != fam) = false := by assumption
         have hB : (17 != proto) = false := by assumption
         rw [vm_yes _ _ _ _ (of_eq hA) (of_eq hB) (.inl rfl)]; rfl)

set_option maxHeartbeats 4000000 in
set_option maxRecDepth 100000 in
theorem verdict_zero_in (fam proto dport : Int) (h2 : 0 ≤ dport) (h3 : dport ≤ 65535) (h4 : 0 ≤ proto) (h5 : proto ≤ 255) (w : World) :
    Calls Try.prog 14 #[.agg #[.string { data := #[] }, .bool false, .bool false, .bool false, .int .i64 1, .bool false, .int .u64 0, .int .u64 0, .pointer none, .int .u64 0, .int .u64 0, .pointer none, .string { data := #[] }, .string { data := #[] }, .string { data := #[118, 120, 108, 97, 110, 45, 112, 101, 101, 114, 115] }, .string { data := #[] }, .int .u8 17, .int .u16 0, .int .u16 0, .string { data := #[] }, .int .u32 0, .int .i64 2, .string { data := #[] }, .int .u64 0, .int .u64 0, .pointer none, .int .u16 0], .int .i64 fam, .int .u8 proto, .int .u16 dport, .bool true] w fun e w' => e = .returned (.tuple #[.bool (vm 0 fam proto dport true), .int .i64 2]) ∧ Below w.heap.size w w' := by
  have q1 := fun wx => nil44 9997 wx
  have q2 := fun wx => nil44 9996 wx
  have q3 := fun wx => nil44 9998 wx
  go_enter Try.func14, Try.ntmps14
  go_wp2
  all_goals
    go_ret2
    exact ⟨by rw [vm_in]; rfl, ((Below.refl _ _).alloc (Nat.le_refl _) _).alloc (by simp) _⟩

end Go.Proofs.Qxb6605627a
