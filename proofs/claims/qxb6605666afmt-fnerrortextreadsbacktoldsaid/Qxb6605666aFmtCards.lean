/-
  DERIVED. GIVEN WITH THE SEED: THE CARDS: each row of Qxb6605666aFmtRows.lean that lists a variable, with what it lists TIED to the program's text (the seventh form; the later family's looks); each row that meets fmt, with fmt's text TOLD by the authors' own Lean function (tested against real Go, not proved from fmt's source: count such statements apart). THE CARD IS WHAT COUNTS. Prove the row's statement (the work); the ties are given (Qxb6605666aFmtTie.lean); close each card by the builder's one call (the guide's Derived/Test/ToyasCard.lean, 'card_holds'). Laid BY PROGRAM, IN A SANDBOX (cutbox-door.mjs). By AI agents, Wed Nov 11 2026. No macro, syntax, notation, axiom, sorry.
-/
import Derived.Test.Qxb6605666aFmtRows
import GoSem.ClaimSeven
namespace Go.Proofs.Qxb6605666aFmt
namespace Rows

/-- THE TOLD CARD OF 'zzlaws_internal_query_b1.FnErrorTextReadsBack'. -/
def fnErrorTextReadsBackCard : Claim7 := { stood := { row := fnErrorTextReadsBackRow, standIns := [], harness := (true, "34eb2562a22412283728fc69a4060840b0a931db025a5e4d0e990e5e1a3b25dd"), looks := false }, told := true, goes := false }
def FnErrorTextReadsBackToldSaid : Prop := Claim7.holds Tryf.pinned (.plain (OpenSpec.ofChange fnErrorTextReadsBackSpec)) fnErrorTextReadsBackCard
/-- ITS FALSE NEIGHBOUR. Refute it at one input. -/
def FnErrorTextReadsBackToldWrongFalsely : Prop := Claim7.holds Tryf.pinned (.plain (OpenSpec.ofChange fnErrorTextReadsBackWrong)) fnErrorTextReadsBackCard
end Rows
end Go.Proofs.Qxb6605666aFmt
