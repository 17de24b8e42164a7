/-
  No cell of these rows narrows 'for every input' (looked for: loops, veiled, ifaces, maps, wideKeys, modest, calm, conditions, laid).
  DERIVED. THE GIVEN ROWS OF THIS SEAT. 1 by the template 'for every input the law returns true; each argument reads behind the call as it read before'; 0 by the template 'total and deterministic' (their statements: YbulkdlaaTotals.lean).
  GIVEN WITH THE SEED: the statements are not yours to turn. If you find one false, say at which input.
  Laid BY PROGRAM, IN A SANDBOX (cutbox-rows.mjs): the forced cells as the released guide's own fill.sh prints them over the translation 1f99a248d4584d43… (all of the seat's roots in one cut). By AI agents, Wed Nov 11 2026. No macro, syntax, notation, axiom, sorry.
-/
import Derived.Test.YbulkdlaaChecked
import GoSem.Claim
import GoSem.ClaimJoined
import GoSem.ClaimMapViews
import Derived.JoinedTies
import Derived.KernelRfl
namespace Go.Proofs.Ybulkdlaa
/- THE CELL 'sum', in the pinned program and in every row, IS THE sha256 OF THE DUMP (.gsa) THAT YbulkdlaaProg.lean LOADS. Nothing in Lean hashes anything: it is a label: what it is worth is what the hold of that sum in a sandbox is worth. -/
noncomputable def Yba.pinned : Pinned := { name := "ybulkdlaa", sum := "1f99a248d4584d43ed89a82789f28e17ab1d81780d69b251da5f5e03dda78303", checked := Yba.checked }
namespace Rows
def none {H : Type} : Left H := { results := [], args := [] }

/-- 'peerweave.LawS5603AWhole': WHATEVER THE INPUT: true; the input reads as it did. -/
def lawS5603AWholeSpec : ChangeSpec := { name := "lawS5603AWhole", fn := fun _ => fun
  | [d1, d2, d3, d4] => { results := [.lit (.bool true)], args := [d1, d2, d3, d4] }
  | _ => none }
def lawS5603AWholeRow : OpenClaim := { program := "ybulkdlaa", sum := "1f99a248d4584d43ed89a82789f28e17ab1d81780d69b251da5f5e03dda78303", func := "example.com/peerweave/peerweave.LawS5603AWhole", spec := "lawS5603AWhole", plainKeys := false, apart := false }
def LawS5603AWholeSaid : Prop := lawS5603AWholeRow.holds Yba.pinned (OpenSpec.ofChange lawS5603AWholeSpec)

/-- ITS FALSE NEIGHBOUR: 'it returns false'. Refute it at one input. -/
def lawS5603AWholeWrong : ChangeSpec := { name := "lawS5603AWhole", fn := fun _ => fun
  | [d1, d2, d3, d4] => { results := [.lit (.bool false)], args := [d1, d2, d3, d4] }
  | _ => none }
def LawS5603AWholeWrongFalsely : Prop := lawS5603AWholeRow.holds Yba.pinned (OpenSpec.ofChange lawS5603AWholeWrong)

end Rows
end Go.Proofs.Ybulkdlaa
