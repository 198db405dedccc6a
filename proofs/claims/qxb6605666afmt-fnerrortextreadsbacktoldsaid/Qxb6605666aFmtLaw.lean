/-
  THE WALK OF 'FnErrorTextReadsBack', over contracts of its callees.
-/
import Derived.Test.Qxb6605666aFmtText
namespace Go.Proofs.Qxb6605666aFmt
open Go.RowKit Go.Extern.Stop Go.Stop Go.Extern
set_option linter.unusedVariables false

set_option maxRecDepth 100000 in
theorem bytes_ok (a b : Int) (st ms : ByteArray) (h : st.size + ms.size ≤ 1048576) (w : World) :
    Calls Tryf.prog 4 #[.int .u16 a, .int .u16 b, .string st, .string ms] w fun e w' => e = .returned (.bool true) ∧ w' = w := by
  have h1 : ¬ (1048576 : Int) < (st.size : Int) := by omega
  have h2 : ¬ (1048576 : Int) < (ms.size : Int) := by omega
  have h3 : ¬ (1048576 : Int) < (st.size : Int) + (ms.size : Int) := by omega
  go_enter Tryf.func4, Tryf.ntmps4
  go_wp2
  go_ret
  exact ⟨rfl, rfl⟩

set_option maxRecDepth 100000 in
theorem bytes_no (a b : Int) (st ms : ByteArray) (h : 1048576 < st.size + ms.size) (hs : st.size ≤ maxLen) (hm : ms.size ≤ maxLen) (w : World) :
    Calls Tryf.prog 4 #[.int .u16 a, .int .u16 b, .string st, .string ms] w fun e w' => e = .returned (.bool false) ∧ w' = w := by
  by_cases c1 : st.size ≤ 1048576
  · have h1 : ¬ (1048576 : Int) < (st.size : Int) := by omega
    by_cases c2 : ms.size ≤ 1048576
    · have h2 : ¬ (1048576 : Int) < (ms.size : Int) := by omega
      have h3 : (1048576 : Int) < (st.size : Int) + (ms.size : Int) := by omega
      go_enter Tryf.func4, Tryf.ntmps4
      go_wp2
      go_ret
      exact ⟨rfl, rfl⟩
    · have h2 : (1048576 : Int) < (ms.size : Int) := by omega
      go_enter Tryf.func4, Tryf.ntmps4
      go_wp2
      go_ret
      exact ⟨rfl, rfl⟩
  · have h1 : (1048576 : Int) < (st.size : Int) := by omega
    go_enter Tryf.func4, Tryf.ntmps4
    go_wp2
    go_ret
    exact ⟨rfl, rfl⟩

set_option maxRecDepth 100000 in
theorem law_long (a b : Int) (st ms : ByteArray) (h : 1048576 < st.size + ms.size) (hs : st.size ≤ maxLen) (hm : ms.size ≤ maxLen) (w : World) :
    Calls Tryf.prog 3 #[.int .u16 a, .int .u16 b, .string st, .string ms] w fun e w' => e = .returned (.bool true) ∧ w' = w := by
  have C := bytes_no a b st ms h hs hm w
  go_enter Tryf.func3, Tryf.ntmps3
  go_wp2_with fail
  refine Calls.mono C ?_
  rintro e w1 ⟨rfl, rfl⟩
  go_wp2
  go_ret
  exact ⟨rfl, rfl⟩

set_option maxHeartbeats 2000000 in
set_option maxRecDepth 100000 in
theorem law_short (a b : Int) (st ms ta tb : ByteArray) (pa pb : Nat) (oa ob : Obj) (a0 : 0 ≤ a) (a1 : a ≤ 65535) (b0 : 0 ≤ b) (b1 : b ≤ 65535) (h : st.size + ms.size ≤ 1048576) (w : World)
    (E1 : ∀ wx, wx.tape = w.tape → Calls Tryf.prog 5 #[.int .u16 a, .string st, .string ms] wx fun e w' => e = .returned (.string ta) ∧ w' = (wx.alloc oa).drew)
    (E2 : ∀ wx, wx.tape = w.tape → Calls Tryf.prog 5 #[.int .u16 b, .string st, .string ms] wx fun e w' => e = .returned (.string tb) ∧ w' = (wx.alloc ob).drew)
    (R1 : ∀ wx, Calls Tryf.prog 6 #[.string ta] wx fun e w' => e = .returned (.tuple #[.int .i64 a, .int .i64 pa, .bool true]) ∧ w' = wx)
    (R2 : ∀ wx, Calls Tryf.prog 6 #[.string tb] wx fun e w' => e = .returned (.tuple #[.int .i64 b, .int .i64 pb, .bool true]) ∧ w' = wx)
    (za : pa ≤ ta.size) (zb : pb ≤ tb.size) (ya : ta.size ≤ 2097152) (yb : tb.size ≤ 2097152)
    (xa : (ta.extract pa ta.size).toList = (st ++ { data := #[41, 58, 32] } ++ ms).toList) (xb : (tb.extract pb tb.size).toList = (st ++ { data := #[41, 58, 32] } ++ ms).toList) (heq : ta.toList = tb.toList ↔ a = b) :
    Calls Tryf.prog 3 #[.int .u16 a, .int .u16 b, .string st, .string ms] w fun e w' => e = .returned (.bool true) ∧ w' = (((w.alloc oa).drew).alloc ob).drew := by
  have C := bytes_ok a b st ms h w
  have h1 : ¬ (1048576 : Int) < (st.size : Int) := by omega
  have h2 : ¬ (1048576 : Int) < (ms.size : Int) := by omega
  have h3 : ¬ (1048576 : Int) < (st.size : Int) + (ms.size : Int) := by omega
  have D1 := E1 w rfl
  have D2 := E2 ((w.alloc oa).drew) rfl
  have F1 := R1 ((((w.alloc oa).drew).alloc ob).drew)
  have F2 := R2 ((((w.alloc oa).drew).alloc ob).drew)
  have xb' : ((tb.extract pb tb.size).toList == (st ++ { data := #[41, 58, 32] } ++ ms).toList) = true := by rw [xb]; simp
  have HQ : Hid _ := heq
  clear E1 E2 R1 R2 heq
  go_enter Tryf.func3, Tryf.ntmps3
  go_wp2_with fail
  refine Calls.mono C ?_
  rintro e w1 ⟨rfl, rfl⟩
  go_wp2_with fail
  refine Calls.mono D1 ?_
  rintro e w1 ⟨rfl, rfl⟩
  go_wp2_with fail
  refine Calls.mono D2 ?_
  rintro e w1 ⟨rfl, rfl⟩
  go_wp2_with fail
  refine Calls.mono F1 ?_
  rintro e w1 ⟨rfl, rfl⟩
  go_wp2_with fail
  refine Calls.mono F2 ?_
  rintro e w1 ⟨rfl, rfl⟩
  go_wp2
  go_ret
  have he : ((ta.toList == tb.toList) == (a == b)) = true := by
    have q := HQ.out
    by_cases hab : a = b
    · rw [q.2 hab, hab]; simp
    · have hn : ¬ ta.toList = tb.toList := fun k => hab (q.1 k)
      rw [beq_eq_false_iff_ne.2 hn, beq_eq_false_iff_ne.2 hab]; rfl
  exact ⟨congrArg (fun x => Ending.returned (Value.bool x)) he, rfl⟩
end Go.Proofs.Qxb6605666aFmt
