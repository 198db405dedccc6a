/-
  THE CLOSED FACTS FOR THE WALK OVER fmt.Sprintf (as the fmt kit's NameFmt texts have them, at this dump's numbers), and query.ErrorText's contract, fmt's text told.
-/
import Derived.Test.Qxb6605666aFmtRows
import Derived.Stop.CallBack
import Derived.Stop.IfaceNil
import GoSem.ClaimData
import Derived.WalkKit
import Derived.WalkSpells
import Derived.Stop.JoinedAt
import Derived.Stop.Texts
import Derived.Stop.JoinedTold
import Derived.Stop.FmtTextKit
namespace Go.Proofs
open Go.Extern.Stop Go.Stop Go.Extern

theorem Tryf.call7 (args : Array Value) (w : World) : (callFunc 7 args).run Tryf.prog w = ((FmtStop.sprintf #[9, 44] #[9] args).run Tryf.prog w).andThen fun v w' => .ok (.value v) w' :=
  run_callFunc_extern Tryf.func7 (by kernel_rfl) (by kernel_rfl) (by kernel_rfl) (by kernel_rfl) args w

theorem Tryf.guard (name : String) (w : World) : (FmtStop.guard name).run Tryf.prog w = .ok () w := by kernel_rfl

-- the one format, at three operands
theorem Tryf.fmt2 : FmtStop.printed? ⟨#[101, 114, 114, 111, 114, 32, 37, 100, 32, 40, 37, 115, 41, 58, 32, 37, 115]⟩ 3 = some [(0, 100, false), (1, 115, false), (2, 115, false)] := by kernel_rfl
theorem Tryf.fmt2r (w : World) : (FmtDoors.printed ⟨#[101, 114, 114, 111, 114, 32, 37, 100, 32, 40, 37, 115, 41, 58, 32, 37, 115]⟩ 3).run Tryf.prog w = .ok [(0, 100, false), (1, 115, false), (2, 115, false)] w := by kernel_rfl

-- type 22: uint16
theorem Tryf.name22 : Tryf.prog.typeName? 3 22 = some "uint16" := by kernel_rfl
def Tryf.shape22 : List UInt8 := [7, 6, 0, 0, 0, 0, 0, 0, 0, 117, 105, 110, 116, 49, 54]
theorem Tryf.op22_100 (name : String) (x : Int) (w : World) : (FmtStop.operand name false 100 false (.iface 22 (.int .u16 x))).run Tryf.prog w = .ok (Tryf.shape22, Go.Extern.Stop.digits 8 (x % 2 ^ 64).toNat) w := by kernel_rfl
-- type 9: string
theorem Tryf.name9 : Tryf.prog.typeName? 3 9 = some "string" := by kernel_rfl
def Tryf.shape9 : List UInt8 := [12, 6, 0, 0, 0, 0, 0, 0, 0, 115, 116, 114, 105, 110, 103]
theorem Tryf.op9_115 (name : String) (x : ByteArray) (w : World) : (FmtStop.operand name false 115 false (.iface 9 (.string x))).run Tryf.prog w = .ok (Tryf.shape9, FmtStop.pack x.data.toList) w := by kernel_rfl

namespace Qxb6605666aFmt
open Go.RowKit
attribute [local go_sem] Tryf.call7 Tryf.guard Tryf.fmt2 Tryf.fmt2r Tryf.op22_100 Tryf.op9_115

/-- WHAT fmt IS ASKED. -/
def eReading (n : Int) (st ms : List UInt8) : List (List UInt8) :=
  [[101, 114, 114, 111, 114, 32, 37, 100, 32, 40, 37, 115, 41, 58, 32, 37, 115], Tryf.shape22, digits 8 (n % 18446744073709551616).toNat, Tryf.shape9, FmtStop.pack st, Tryf.shape9, FmtStop.pack ms]

/-- The word error and a blank, the number, a blank and an opening bracket, the state, a closing bracket, a colon and a blank, the message. -/
def eText (n : Int) (st ms : List UInt8) : List UInt8 := [101, 114, 114, 111, 114, 32] ++ Lib.itoa n ++ [32, 40] ++ st ++ [41, 58, 32] ++ ms

set_option maxHeartbeats 400000 in
theorem errorText_all (F : Interp) (n : Int) (st ms : ByteArray) (w : World) (hF : F.answers w.tape) :
    Calls Tryf.prog 5 #[.int .u16 n, .string st, .string ms] w fun e w' => e = .returned (.string (FmtStop.textOf (F "fmt.Sprintf" (eReading n st.data.toList ms.data.toList) 0))) ∧
      w' = (w.alloc (.cells #[.iface 22 (.int .u16 n), .iface 9 (.string st), .iface 9 (.string ms)] 20)).drew := by
  have hF' := answers_open hF
  go_enter Tryf.func5, Tryf.ntmps5
  go_wp2
  go_ret
  exact ⟨rfl, rfl⟩

theorem e_parse : (FmtText.parse [101, 114, 114, 111, 114, 32, 37, 100, 32, 40, 37, 115, 41, 58, 32, 37, 115]).map FmtText.glue = some [.lit [101, 114, 114, 111, 114, 32], .verb {} 100, .lit [32, 40], .verb {} 115, .lit [41, 58, 32], .verb {} 115] := by rfl

theorem e_text (n : Int) (st ms : List UInt8) (hs : st.length < 2 ^ 64) (hm : ms.length < 2 ^ 64) (hw : (Lit.int .u16 n).wf = true) : FmtText.text "fmt.Sprintf" (eReading n st ms) = some (eText n st ms) := by
  have hi := FmtText.operand_int_at (sh := Tryf.shape22) (k := .u16) rfl rfl n hw
  have hn := FmtText.operand_str_at (sh := Tryf.shape9) rfl rfl st hs
  have hq := FmtText.operand_str_at (sh := Tryf.shape9) rfl rfl ms hm
  rw [eReading, FmtText.text_sprintf_glued e_parse (FmtText.operands_cons hi (FmtText.operands_cons hn (FmtText.operands_cons hq FmtText.operands_nil)))]
  simp [FmtText.render, FmtText.printArg_d _ _ hw, FmtText.printArg_s_str, eText]
end Qxb6605666aFmt
end Go.Proofs
