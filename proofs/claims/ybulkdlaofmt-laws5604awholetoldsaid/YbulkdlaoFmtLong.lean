import Derived.Test.YbulkdlaoFmtWord
import Derived.Test.YbulkdlaoFmtSeek
namespace Go.Proofs.YbulkdlaoFmt
set_option linter.unusedVariables false
set_option linter.unusedSimpArgs false
open Go.RowKit

/-- What the table knows of two ids behind one id: a form tells an id, but for a long middle, which its rest tells. -/
def sameB : Bool := (List.range 13).all fun p => (List.range 12).all fun x => (List.range 12).all fun y =>
  let f := ft p x
  (f != ft p y) || (if flong f == 0 then x == y else
    let u := (fpre f).toNat + 4
    let v := (fend f).toNat
    decide (0 ≤ fpre f) && decide (0 ≤ fend f) && decide (u ≤ v) && decide (v ≤ (nm x).size) && decide (v ≤ (nm y).size) &&
      (if v - u ≤ 8 ∧ 8 ≤ v then ((nm x).extract (v - 8) v).data == ((nm y).extract (v - 8) v).data else ((nm x).extract u v).data == ((nm y).extract u v).data) == (x == y))
theorem sameOk : sameB = true := by kernel_rfl
end Go.Proofs.YbulkdlaoFmt
