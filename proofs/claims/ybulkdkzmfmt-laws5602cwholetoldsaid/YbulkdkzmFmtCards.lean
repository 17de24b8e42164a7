/-
  DERIVED. GIVEN WITH THE SEED: THE CARDS: each row of YbulkdkzmFmtRows.lean that lists a variable, with what it lists TIED to the program's text (the seventh form; the later family's looks); each row that meets fmt, with fmt's text TOLD by the authors' own Lean function (tested against real Go, not proved from fmt's source: count such statements apart). THE CARD IS WHAT COUNTS. Prove the row's statement (the work); the ties are given (YbulkdkzmFmtTie.lean); close each card by the builder's one call (the guide's Derived/Test/ToyasCard.lean, 'card_holds'). Laid BY PROGRAM, IN A SANDBOX (cutbox-door.mjs). By AI agents, Wed Nov 11 2026. No macro, syntax, notation, axiom, sorry.
-/
import Derived.Test.YbulkdkzmFmtRows
import GoSem.ClaimSeven
namespace Go.Proofs.YbulkdkzmFmt
namespace Rows

/-- THE TOLD CARD OF 'company.LawS5602CWhole'. -/
def lawS5602CWholeCard : Claim7 := { stood := { row := lawS5602CWholeRow, standIns := [], harness := (true, "8da39d6d07b00aaa4bb89ffb8dde16f9fd296c8917aa35b2c44ede0c0df5b33b"), looks := false }, told := true, goes := false }
def LawS5602CWholeToldSaid : Prop := Claim7.holds Ybaf.pinned (.plain (OpenSpec.ofChange lawS5602CWholeSpec)) lawS5602CWholeCard
/-- ITS FALSE NEIGHBOUR. Refute it at one input. -/
def LawS5602CWholeToldWrongFalsely : Prop := Claim7.holds Ybaf.pinned (.plain (OpenSpec.ofChange lawS5602CWholeWrong)) lawS5602CWholeCard
end Rows
end Go.Proofs.YbulkdkzmFmt
