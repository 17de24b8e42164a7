import Derived.Test.YbulkdlaaNum
namespace Go.Proofs.Ybulkdlaa
set_option linter.unusedVariables false
set_option linter.unusedSimpArgs false
open Go.RowKit

/-! The law's own code, taken apart: the part that begins with a given region. -/
def headId : Code → Option Nat
  | .region id _ _ => some id
  | .seq a _ => headId a
  | .block _ c => headId c
  | .loop c => headId c
  | _ => none
def isId (n : Nat) : Option Nat → Bool
  | some m => m.beq n
  | none => false
/-- The greatest part of the code whose first region is n. -/
def sub (n : Nat) : Code → Option Code
  | .region id o b => if id.beq n then some (.region id o b) else none
  | .seq a b => if isId n (headId (.seq a b)) then some (.seq a b) else match sub n a with
    | some c => some c
    | none => sub n b
  | .block i c => if isId n (headId c) then some (.block i c) else sub n c
  | .loop c => if isId n (headId c) then some (.loop c) else sub n c
  | .cond _ a b => match sub n a with
    | some c => some c
    | none => sub n b
  | _ => none
def lft : Code → Code
  | .seq a _ => a
  | c => c
def rgt : Code → Code
  | .seq _ b => b
  | _ => .skip
noncomputable def cod (n : Nat) : Code := (Yba.f3.body.bind (sub n)).getD .skip

/-- What the law's body must end with. -/
def done (w : World) : Exit → Act → World → Prop := bodyPost Yba.prog Yba.f3 fun e w' => e = .returned (.bool true) ∧ Below w.heap.size w w'
end Go.Proofs.Ybulkdlaa
