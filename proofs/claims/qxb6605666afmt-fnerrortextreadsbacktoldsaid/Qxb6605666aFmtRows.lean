/-
  No cell of these rows narrows 'for every input' (looked for: loops, veiled, ifaces, maps, wideKeys, modest, calm, conditions, laid).
  DERIVED. THE GIVEN ROWS OF THIS SEAT. 1 by the template 'for every input the law returns true; each argument reads behind the call as it read before'; 0 by the template 'total and deterministic' (their statements: Qxb6605666aFmtTotals.lean).
  GIVEN WITH THE SEED: the statements are not yours to turn. If you find one false, say at which input.
  Laid BY PROGRAM, IN A SANDBOX (cutbox-rows.mjs): the forced cells as the released guide's own fill.sh prints them over the translation ab5158a459a2dad8… (all of the seat's roots in one cut). By AI agents, Wed Nov 11 2026. No macro, syntax, notation, axiom, sorry.
-/
import Derived.Test.Qxb6605666aFmtChecked
import GoSem.Claim
import GoSem.ClaimJoined
import GoSem.ClaimMapViews
import Derived.JoinedTies
import Derived.KernelRfl
namespace Go.Proofs.Qxb6605666aFmt
/- THE CELL 'sum', in the pinned program and in every row, IS THE sha256 OF THE DUMP (.gsa) THAT Qxb6605666aFmtProg.lean LOADS. Nothing in Lean hashes anything: it is a label: what it is worth is what the hold of that sum in a sandbox is worth. -/
noncomputable def Tryf.pinned : Pinned := { name := "qxb6605666afmt", sum := "ab5158a459a2dad8dd23fa7443b44067040a4e1343498372d595147ab0fa99d8", checked := Tryf.checked }
namespace Rows
def none {H : Type} : Left H := { results := [], args := [] }

/-- 'zzlaws_internal_query_b1.FnErrorTextReadsBack': WHATEVER THE INPUT: true; the input reads as it did. -/
def fnErrorTextReadsBackSpec : ChangeSpec := { name := "fnErrorTextReadsBack", fn := fun _ => fun
  | [d1, d2, d3, d4] => { results := [.lit (.bool true)], args := [d1, d2, d3, d4] }
  | _ => none }
def fnErrorTextReadsBackRow : OpenClaim := { program := "qxb6605666afmt", sum := "ab5158a459a2dad8dd23fa7443b44067040a4e1343498372d595147ab0fa99d8", func := "example.com/rollpoint/rollpoint/zzlaws_internal_query_b1.FnErrorTextReadsBack", spec := "fnErrorTextReadsBack", stops := ["fmt.Sprintf"], inPlace := ["fmt.Sprintf"], apart := false }
/-- NO THEOREM (fmt's text is open here; it may be false): for the released tool's asking of the row's closed facts alone. THE STATEMENT IS 'FnErrorTextReadsBackToldSaid' (Qxb6605666aFmtCards.lean). -/
def FnErrorTextReadsBackFormAsk : Prop := fnErrorTextReadsBackRow.holds Tryf.pinned (OpenSpec.ofChange fnErrorTextReadsBackSpec)

/-- ITS FALSE NEIGHBOUR: 'it returns false'. Refute it at one input. -/
def fnErrorTextReadsBackWrong : ChangeSpec := { name := "fnErrorTextReadsBack", fn := fun _ => fun
  | [d1, d2, d3, d4] => { results := [.lit (.bool false)], args := [d1, d2, d3, d4] }
  | _ => none }
def FnErrorTextReadsBackWrongFormAsk : Prop := fnErrorTextReadsBackRow.holds Tryf.pinned (OpenSpec.ofChange fnErrorTextReadsBackWrong)

end Rows
end Go.Proofs.Qxb6605666aFmt
