import Derived.Test.YbulkdkyySched
namespace Go.Proofs.Ybulkdkyy
set_option linter.unusedVariables false
set_option linter.unusedSimpArgs false
open Go.RowKit

def e0 : Value := .string ⟨#[]⟩

theorem sess_new (w : World) (b i : Nat) (hb : b = w.heap.size) : Sess (w.alloc (.cells #[.int .i32 0, .int .u32 0, e0, e0, e0, .int .i64 0, e0, e0, e0, .int .u64 0, .int .i64 0, .pointer none, .int .i64 i, .pointer none, .int .u64 0, .int .i64 0, .pointer none, .bool false, .int .u64 0, .int .i64 0, .pointer none, .int .i64 (-1)] 61)) b i 0 (-1) := by
  subst hb
  refine ⟨fun j => (#[Value.int .i32 0, .int .u32 0, e0, e0, e0, .int .i64 0, e0, e0, e0, .int .u64 0, .int .i64 0, .pointer none, .int .i64 i, .pointer none, .int .u64 0, .int .i64 0, .pointer none, .bool false, .int .u64 0, .int .i64 0, .pointer none, .int .i64 (-1)] : Array Value).getD j undef, World.rowIs_alloc w _ 61 _ (fun j hj => ?_), rfl, rfl, rfl, rfl, rfl⟩
  simp only [Array.getD, hj, dif_pos]
  rw [Array.getElem?_eq_getElem hj]; rfl

set_option maxRecDepth 10000 in
set_option maxHeartbeats 400000 in
theorem new_any (i : Nat) (w : World) :
    Calls Yba.prog 4 #[.agg #[e0, e0, e0, .int .i64 0, e0, e0, e0, .int .u64 0, .int .i64 0, .pointer none, .int .i64 i, .pointer none, .int .u64 0, .int .i64 0, .pointer none]] w fun e w' =>
      ∃ b, e = .returned (.pointer (some ⟨b, 0, none⟩)) ∧ w.heap.size ≤ b ∧ Sess w' b i 0 (-1) ∧ Below w.heap.size w w' := by
  go_enter Yba.func4, Yba.ntmps4
  go_wp2
  go_ret
  refine ⟨w.heap.size + 1, rfl, by omega, ?_, ((Below.refl _ _).alloc (Nat.le_refl _) _).alloc (by simp) _⟩
  exact sess_new _ _ i (by simp)

/-- (time.Time{}).Add(d). -/
theorem add_zero (d : Int) (w : World) (hd : -9223372036854775808 ≤ d ∧ d ≤ 9223372036854775807) :
    Calls Yba.prog 14 #[.agg #[.int .u64 0, .int .i64 0, .pointer none], .int .i64 d] w fun e w' => e = .returned (.agg #[.int .u64 (nsOf d), .int .i64 (scOf d), .pointer none]) ∧ Below w.heap.size w w' := by
  refine (add_any 0 0 d w (by omega) (by omega) (by omega) hd).mono ?_
  rintro e w' ⟨rfl, hb⟩
  refine ⟨?_, hb⟩
  have e1 : (0 + d) % 1000000000 = nsOf d := by unfold nsOf; omega
  have e2 : 0 + (0 + d) / 1000000000 = scOf d := by unfold scOf; omega
  rw [e1, e2]

set_option maxRecDepth 10000 in
set_option maxHeartbeats 400000 in
theorem at_any (d : Int) (w : World) (hd : -9223372036854775808 ≤ d ∧ d ≤ 9223372036854775807) :
    Calls Yba.prog 6 #[.int .i64 d] w fun e w' => e = .returned (.agg #[.int .u64 (nsOf d), .int .i64 (scOf d), .pointer none]) ∧ Below w.heap.size w w' := by
  go_enter Yba.func6, Yba.ntmps6
  go_wp2_with fail
  refine (add_zero d _ hd).mono ?_
  rintro e w1 ⟨rfl, hb⟩
  have hsz : w.heap.size < w1.heap.size := by have := hb.size; simp at this; omega
  have c0 : w1.cell? ⟨w.heap.size, 0, none⟩ = some (.int .u64 0) := by rw [hb.cell (show w.heap.size < _ from by simp)]; simp
  have c1 : w1.cell? ⟨w.heap.size, 1, none⟩ = some (.int .i64 0) := by rw [hb.cell (show w.heap.size < _ from by simp)]; simp
  have c2 : w1.cell? ⟨w.heap.size, 2, none⟩ = some (.pointer none) := by rw [hb.cell (show w.heap.size < _ from by simp)]; simp
  have f0 : w1.frozen? ⟨w.heap.size, 0, none⟩ = false := by rw [hb.frozen (show w.heap.size < _ from by simp)]; simp
  have f1 : w1.frozen? ⟨w.heap.size, 1, none⟩ = false := by rw [hb.frozen (show w.heap.size < _ from by simp)]; simp
  have f2 : w1.frozen? ⟨w.heap.size, 2, none⟩ = false := by rw [hb.frozen (show w.heap.size < _ from by simp)]; simp
  go_wp2
  refine bodyPost_ret (v := .agg #[.int .u64 (nsOf d), .int .i64 (scOf d), .pointer none]) (by simp [results, Yba.results6, go_sem, c0, c1, c2]) rfl ⟨rfl, ?_⟩
  have hb' : Below w.heap.size w w1 := ((Below.refl _ w).alloc (Nat.le_refl _) _).trans (hb.mono (by simp))
  exact ((hb'.setCell (Nat.le_refl _) _).setCell (Nat.le_refl _) _).setCell (Nat.le_refl _) _

set_option maxRecDepth 10000 in
set_option maxHeartbeats 400000 in
theorem isZero_any (w : World) :
    Calls Yba.prog 11 #[.agg #[.int .u64 0, .int .i64 0, .pointer none]] w fun e w' => e = .returned (.bool true) ∧ Below w.heap.size w w' := by
  go_enter Yba.func11, Yba.ntmps11
  go_wp2
  go_ret
  exact ⟨rfl, (Below.refl _ _).alloc (Nat.le_refl _) _⟩
end Go.Proofs.Ybulkdkyy
