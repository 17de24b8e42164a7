/-
  No cell of these rows narrows 'for every input' (looked for: loops, veiled, ifaces, maps, wideKeys, modest, calm, conditions, laid).
  DERIVED. THE GIVEN ROWS OF THIS SEAT. 1 by the template 'for every input the law returns true; each argument reads behind the call as it read before'; 0 by the template 'total and deterministic' (their statements: YbulkdkzmFmtTotals.lean).
  GIVEN WITH THE SEED: the statements are not yours to turn. If you find one false, say at which input.
  Laid BY PROGRAM, IN A SANDBOX (cutbox-rows.mjs): the forced cells as the released guide's own fill.sh prints them over the translation efc66d98ddfa2180… (all of the seat's roots in one cut). By AI agents, Wed Nov 11 2026. No macro, syntax, notation, axiom, sorry.
-/
import Derived.Test.YbulkdkzmFmtChecked
import GoSem.Claim
import GoSem.ClaimJoined
import GoSem.ClaimMapViews
import Derived.JoinedTies
import Derived.KernelRfl
namespace Go.Proofs.YbulkdkzmFmt
/- THE CELL 'sum', in the pinned program and in every row, IS THE sha256 OF THE DUMP (.gsa) THAT YbulkdkzmFmtProg.lean LOADS. Nothing in Lean hashes anything: it is a label: what it is worth is what the hold of that sum in a sandbox is worth. -/
noncomputable def Ybaf.pinned : Pinned := { name := "ybulkdkzmfmt", sum := "efc66d98ddfa21805a7521e93e6b603e6f588bd2847a7657e4297617efaa90c1", checked := Ybaf.checked }
namespace Rows
def none {H : Type} : Left H := { results := [], args := [] }

/-- 'company.LawS5602CWhole': WHATEVER THE INPUT: true; the input reads as it did. -/
def lawS5602CWholeSpec : ChangeSpec := { name := "lawS5602CWhole", fn := fun _ => fun
  | [d1, d2, d3, d4] => { results := [.lit (.bool true)], args := [d1, d2, d3, d4] }
  | _ => none }
def lawS5602CWholeRow : OpenClaim := { program := "ybulkdkzmfmt", sum := "efc66d98ddfa21805a7521e93e6b603e6f588bd2847a7657e4297617efaa90c1", func := "example.com/listcodex/listcodex/company.LawS5602CWhole", spec := "lawS5602CWhole", stops := ["fmt.errorf, its operands' methods called"], inPlace := ["fmt.errorf"], unfollowed := true, recurses := true, apart := false }
/-- NO THEOREM (fmt's text is open here; it may be false): for the released tool's asking of the row's closed facts alone. THE STATEMENT IS 'LawS5602CWholeToldSaid' (YbulkdkzmFmtCards.lean). -/
def LawS5602CWholeFormAsk : Prop := lawS5602CWholeRow.holds Ybaf.pinned (OpenSpec.ofChange lawS5602CWholeSpec)

/-- ITS FALSE NEIGHBOUR: 'it returns false'. Refute it at one input. -/
def lawS5602CWholeWrong : ChangeSpec := { name := "lawS5602CWhole", fn := fun _ => fun
  | [d1, d2, d3, d4] => { results := [.lit (.bool false)], args := [d1, d2, d3, d4] }
  | _ => none }
def LawS5602CWholeWrongFormAsk : Prop := lawS5602CWholeRow.holds Ybaf.pinned (OpenSpec.ofChange lawS5602CWholeWrong)

end Rows
end Go.Proofs.YbulkdkzmFmt
