/-
  DERIVED. GIVEN WITH THE SEED: THE CARDS: each row of YbulkdlaoFmtRows.lean that lists a variable, with what it lists TIED to the program's text (the seventh form; the later family's looks); each row that meets fmt, with fmt's text TOLD by the authors' own Lean function (tested against real Go, not proved from fmt's source: count such statements apart). THE CARD IS WHAT COUNTS. Prove the row's statement (the work); the ties are given (YbulkdlaoFmtTie.lean); close each card by the builder's one call (the guide's Derived/Test/ToyasCard.lean, 'card_holds'). Laid BY PROGRAM, IN A SANDBOX (cutbox-door.mjs). By AI agents, Wed Nov 11 2026. No macro, syntax, notation, axiom, sorry.
-/
import Derived.Test.YbulkdlaoFmtRows
import GoSem.ClaimSeven
namespace Go.Proofs.YbulkdlaoFmt
namespace Rows

/-- THE TOLD CARD OF 'tallyclock.LawS5604AWhole'. -/
def lawS5604AWholeCard : Claim7 := { stood := { row := lawS5604AWholeRow, standIns := [], harness := (true, "22e5b43801a509c31f89439426061c3f76e37729c77071c608ed1ee60b8b46f6"), looks := true }, told := true, goes := false }
def LawS5604AWholeToldSaid : Prop := Claim7.holds Ybaf.pinned (.plain (OpenSpec.ofChange lawS5604AWholeSpec)) lawS5604AWholeCard
/-- ITS FALSE NEIGHBOUR. Refute it at one input. -/
def LawS5604AWholeToldWrongFalsely : Prop := Claim7.holds Ybaf.pinned (.plain (OpenSpec.ofChange lawS5604AWholeWrong)) lawS5604AWholeCard

/-- THE TOLD AND TIED CARD OF 'tallyclock.LawS5604BWhole'. -/
def lawS5604BWholeCard : Claim7 := { stood := { row := lawS5604BWholeRow, standIns := [], harness := (true, "22e5b43801a509c31f89439426061c3f76e37729c77071c608ed1ee60b8b46f6"), looks := true }, told := true, laidByText := true, laidKinds := [.data, .pinned, .pinned, .pinned, .pinned, .pinned, .pinned], laidTests := true, laidLooks := .later, goes := false }
def LawS5604BWholeToldSaid : Prop := Claim7.holds Ybaf.pinned (.plain (OpenSpec.ofChange lawS5604BWholeSpec)) lawS5604BWholeCard
/-- ITS FALSE NEIGHBOUR. Refute it at one input. -/
def LawS5604BWholeToldWrongFalsely : Prop := Claim7.holds Ybaf.pinned (.plain (OpenSpec.ofChange lawS5604BWholeWrong)) lawS5604BWholeCard
end Rows
end Go.Proofs.YbulkdlaoFmt
