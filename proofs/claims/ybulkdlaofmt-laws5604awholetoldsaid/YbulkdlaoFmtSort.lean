import Derived.Test.YbulkdlaoFmtRef2
namespace Go.Proofs.YbulkdlaoFmt
set_option linter.unusedVariables false
set_option linter.unusedSimpArgs false
open Go.RowKit
open Go.Sort (grow SWO PermIn SortedIn)

/-! The order of the twelve names. -/
def rk (k : Nat) : Nat := [0, 2, 1, 5, 6, 7, 8, 3, 4, 9, 10, 11].getD k 0
def sgn (a b : Nat) : Int := if a < b then -1 else if b < a then 1 else 0
def rkB : Bool := (List.range 12).all fun x => (List.range 12).all fun y => decide (cmpB (nm x) (nm y) = sgn (rk x) (rk y)) && ((rk x != rk y) || (x == y))
theorem rkOk : rkB = true := by kernel_rfl
theorem cmp_rk {x y : Nat} (hx : x < 12) (hy : y < 12) : cmpB (nm x) (nm y) = sgn (rk x) (rk y) ∧ (rk x = rk y → x = y) := by
  have h := rkOk
  unfold rkB at h
  have h1 := List.all_eq_true.1 h x (List.mem_range.2 hx)
  have h2 := List.all_eq_true.1 h1 y (List.mem_range.2 hy)
  simp at h2
  refine ⟨h2.1, fun e => ?_⟩
  rcases h2.2 with h3 | h3
  · exact absurd e h3
  · exact h3
theorem sgn_lt {a b : Nat} : sgn a b < 0 ↔ a < b := by
  unfold sgn
  split
  · simp; assumption
  · split <;> simp <;> omega

abbrev OE (ids : ByteArray) := { e : En // Ok ids e }
def encO {ids : ByteArray} (x : OE ids) : List Value := encE x.1
def cfO {ids : ByteArray} (x y : OE ids) : Int := cmpB (nm x.1.k) (nm y.1.k)

theorem ltO {ids : ByteArray} (x y : OE ids) : ltOf cfO x y = decide (rk x.1.k < rk y.1.k) := by
  unfold ltOf cfO
  rw [(cmp_rk x.2.k y.2.k).1]
  exact decide_eq_decide.2 sgn_lt

theorem swoO {ids : ByteArray} : SWO (ltOf (cfO (ids := ids))) :=
  ⟨fun x => by rw [ltO]; simp, fun x y z h1 h2 => by rw [ltO] at *; simp at *; omega, fun x y z h1 h2 => by rw [ltO] at *; simp at *; omega⟩
end Go.Proofs.YbulkdlaoFmt
