import Derived.Test.YbulkdlaoFmtDel2
import Derived.Deep.RegionHeld3
import Derived.Deep.DrawnRows
namespace Go.Proofs.YbulkdlaoFmt
set_option linter.unusedVariables false
set_option linter.unusedSimpArgs false
open Go.RowKit
open Go.Sort (grow)
attribute [local go_sem ↓] Go.wp_at_zero Go.wp_at_succ

/-! What the kernel knows of the twelve names' forms. -/
def pv (p : Nat) : ByteArray := if p = 0 then ⟨#[]⟩ else nm (p - 1)
def fo (p k : Nat) : Int := foI (pv p) (nm k)
def foOkB : Bool := (List.range 13).all fun p => (List.range 12).all fun k => decide (0 ≤ fo p k) && decide (flen (fo p k) = ((nm k).size : Int))
theorem foOk : foOkB = true := by kernel_rfl
theorem fo_ok {p k : Nat} (hp : p < 13) (hk : k < 12) : 0 ≤ fo p k ∧ flen (fo p k) = ((nm k).size : Int) := by
  have h := foOk
  unfold foOkB at h
  have h1 := List.all_eq_true.1 h p (List.mem_range.2 hp)
  have h2 := List.all_eq_true.1 h1 k (List.mem_range.2 hk)
  simpa using h2
end Go.Proofs.YbulkdlaoFmt
