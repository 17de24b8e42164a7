import Derived.Test.YbulkdlaaHeld
namespace Go.Proofs.Ybulkdlaa
set_option linter.unusedVariables false
set_option linter.unusedSimpArgs false
open Go.RowKit

set_option maxRecDepth 20000 in
set_option maxHeartbeats 1000000 in
theorem law_big0 {w : World} (a0 a1 : Option Addr) (n0 n1 cp0 cp1 : Nat) (gs : Int) (gn gk : ByteArray) (pick : Int) (h : 4096 < n0) :
    Calls Yba.prog 3 #[.slice a0 n0 cp0, .slice a1 n1 cp1, .agg #[.int .u8 gs, .string gn, .string gk], .int .u16 pick] w fun e w' => e = .returned (.bool true) ∧ Below w.heap.size w w' := by
  have h' : (4096 : Int) < (n0 : Int) := by omega
  go_enter Yba.func3, Yba.ntmps3
  go_wp2_with fail
  go_ret
  exact ⟨rfl, (Below.refl _ _).alloc (Nat.le_refl _) _⟩

set_option maxRecDepth 20000 in
set_option maxHeartbeats 1000000 in
theorem law_big1 {w : World} (a0 a1 : Option Addr) (n0 n1 cp0 cp1 : Nat) (gs : Int) (gn gk : ByteArray) (pick : Int) (h0 : n0 ≤ 4096) (h : 4096 < n1) :
    Calls Yba.prog 3 #[.slice a0 n0 cp0, .slice a1 n1 cp1, .agg #[.int .u8 gs, .string gn, .string gk], .int .u16 pick] w fun e w' => e = .returned (.bool true) ∧ Below w.heap.size w w' := by
  have h1 : ¬ (4096 : Int) < (n0 : Int) := by omega
  have h' : (4096 : Int) < (n1 : Int) := by omega
  go_enter Yba.func3, Yba.ntmps3
  go_wp2_with fail
  go_ret
  exact ⟨rfl, (Below.refl _ _).alloc (Nat.le_refl _) _⟩
end Go.Proofs.Ybulkdlaa
