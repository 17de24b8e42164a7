import Derived.Test.YbulkdkyyHeap
namespace Go.Proofs.Ybulkdkyy
set_option linter.unusedVariables false
set_option linter.unusedSimpArgs false
open Go.RowKit
open Go.Sort (grow)

set_option maxHeartbeats 400000 in
theorem len_any (a : Option Addr) (n c : Nat) (w : World) :
    Calls Yba.prog 85 #[.slice a n c] w fun e w' => e = .returned (.int .i64 n) ∧ w' = w := by
  go_enter Yba.func85, Yba.ntmps85
  go_wp2
  go_ret
  exact ⟨rfl, rfl⟩

set_option maxHeartbeats 400000 in
theorem less_low (g n c i j bi bj : Nat) (ni si nj sj : Int) (w : World) (r : Bool) (hr : Hid (r = decide (si < sj ∨ (si = sj ∧ ni < nj))))
    (hi : (i : Int) < n) (hj : (j : Int) < n) (h0 : 0 ≤ ni) (h1 : ni < 1000000000) (g0 : 0 ≤ nj) (g1 : nj < 1000000000)
    (ci : w.cell? ⟨g, i, none⟩ = some (.pointer (some ⟨bi, 0, none⟩))) (cj : w.cell? ⟨g, j, none⟩ = some (.pointer (some ⟨bj, 0, none⟩)))
    (di : w.cell? ⟨bi, 18, none⟩ = some (.int .u64 ni)) (di1 : w.cell? ⟨bi, 19, none⟩ = some (.int .i64 si)) (di2 : w.cell? ⟨bi, 20, none⟩ = some (.pointer none))
    (dj : w.cell? ⟨bj, 18, none⟩ = some (.int .u64 nj)) (dj1 : w.cell? ⟨bj, 19, none⟩ = some (.int .i64 sj)) (dj2 : w.cell? ⟨bj, 20, none⟩ = some (.pointer none)) :
    Calls Yba.prog 86 #[.slice (some ⟨g, 0, none⟩) n c, .int .i64 i, .int .i64 j] w fun e w' => e = .returned (.bool r) ∧ Below w.heap.size w w' := by
  have k1 := fun d os => cell_regrown ci d os
  have k2 := fun d os => cell_regrown cj d os
  have k3 := fun d os => cell_regrown di d os
  have k4 := fun d os => cell_regrown di1 d os
  have k5 := fun d os => cell_regrown di2 d os
  have k6 := fun d os => cell_regrown dj d os
  have k7 := fun d os => cell_regrown dj1 d os
  have k8 := fun d os => cell_regrown dj2 d os
  have cB := fun d os => Calls.regrown_of (before_low ni si nj sj (grow (redrawn w d) os) h0 h1 g0 g1 r hr)
  clear ci cj di di1 di2 dj dj1 dj2
  go_enter Yba.func86, Yba.ntmps86
  go_wp2
  refine wp_region_quiet_below (by kernel_rfl) (by kernel_rfl) ?_
  repeat (quiet_step (exact cB _ _))
  refine wpQuiet_nil ?_
  intro _ hw'
  obtain ⟨⟨dq, osq⟩, hw''⟩ := hw'
  subst hw''
  go_wp2
  go_ret
  exact ⟨rfl, below_regrown w dq osq⟩

theorem less_any {w : World} {g cap : Nat} {sb : Nat → Nat} {d : Nat → Int} {k : Nat} {q : List Nat} (h : HW w g cap sb d k q) (i j : Nat) (hi : i < q.length) (hj : j < q.length) (c : Nat) :
    Calls Yba.prog 86 #[.slice (some ⟨g, 0, none⟩) q.length c, .int .i64 i, .int .i64 j] w fun e w' => e = .returned (.bool (decide (d (q.getD i 0) < d (q.getD j 0)))) ∧ Below w.heap.size w w' :=
  less_low g q.length c i j _ _ _ _ _ _ w _ (lt_of_parts _ _) (by omega) (by omega) (nsOf_lo _) (nsOf_hi _) (nsOf_lo _) (nsOf_hi _) (h.cell hi) (h.cell hj)
    (h.inq i hi).dl0 (h.inq i hi).dl1 (h.inq i hi).dl2 (h.inq j hj).dl0 (h.inq j hj).dl1 (h.inq j hj).dl2

set_option maxHeartbeats 400000 in
theorem swap_low (g n c i j bi bj : Nat) (xi xj : Value) (w : World) (hij : i ≠ j) (hbb : bi ≠ bj) (hgi : bi ≠ g) (hgj : bj ≠ g)
    (hi : (i : Int) < n) (hj : (j : Int) < n)
    (ci : w.cell? ⟨g, i, none⟩ = some (.pointer (some ⟨bi, 0, none⟩))) (cj : w.cell? ⟨g, j, none⟩ = some (.pointer (some ⟨bj, 0, none⟩)))
    (fi : w.frozen? ⟨g, i, none⟩ = false) (fj : w.frozen? ⟨g, j, none⟩ = false)
    (di : w.cell? ⟨bi, 21, none⟩ = some xi) (dj : w.cell? ⟨bj, 21, none⟩ = some xj) (ei : w.frozen? ⟨bi, 21, none⟩ = false) (ej : w.frozen? ⟨bj, 21, none⟩ = false) :
    Calls Yba.prog 87 #[.slice (some ⟨g, 0, none⟩) n c, .int .i64 i, .int .i64 j] w fun e w' => e = .returned (.tuple #[]) ∧
      w' = ((((w.setCell ⟨g, i, none⟩ (.pointer (some ⟨bj, 0, none⟩))).setCell ⟨g, j, none⟩ (.pointer (some ⟨bi, 0, none⟩))).setCell ⟨bj, 21, none⟩ (.int .i64 i)).setCell ⟨bi, 21, none⟩ (.int .i64 j)).drew.drew := by
  go_enter Yba.func87, Yba.ntmps87
  go_wp2
  go_region
  all_goals go_wp2
  go_region
  go_end0
  exact ⟨rfl, rfl⟩

set_option maxHeartbeats 400000 in
/-- Swap(0, 0), at one element. -/
theorem swap_same_low (g n c i bi : Nat) (w : World) (hgi : bi ≠ g) (hi : (i : Int) < n)
    (ci : w.cell? ⟨g, i, none⟩ = some (.pointer (some ⟨bi, 0, none⟩))) (fi : w.frozen? ⟨g, i, none⟩ = false) (xi : Value)
    (di : w.cell? ⟨bi, 21, none⟩ = some xi) (ei : w.frozen? ⟨bi, 21, none⟩ = false) :
    Calls Yba.prog 87 #[.slice (some ⟨g, 0, none⟩) n c, .int .i64 i, .int .i64 i] w fun e w' => e = .returned (.tuple #[]) ∧
      w' = ((((w.setCell ⟨g, i, none⟩ (.pointer (some ⟨bi, 0, none⟩))).setCell ⟨g, i, none⟩ (.pointer (some ⟨bi, 0, none⟩))).setCell ⟨bi, 21, none⟩ (.int .i64 i)).setCell ⟨bi, 21, none⟩ (.int .i64 i)).drew.drew := by
  go_enter Yba.func87, Yba.ntmps87
  go_wp2
  go_region
  all_goals go_wp2
  go_region
  go_end0
  exact ⟨rfl, rfl⟩
theorem meth_row (name : String) (f : Nat) (h : ((Yba.prog.info? 67).bind fun i => i.methods.find? (·.name == name)).map (fun m => (m.path, m.func)) = some (#[], some (f, false))) :
   ∃ i m, Yba.prog.info? 67 = some i ∧ i.methods.find? (·.name == name) = some m ∧ m.path = #[] ∧ m.func = some (f, false) := by
  cases hi : Yba.prog.info? 67 with
  | none => rw [hi] at h; cases h
  | some i =>
    rw [hi] at h
    cases hm : i.methods.find? (·.name == name) with
    | none => simp [hm] at h
    | some m =>
      simp [hm] at h
      exact ⟨i, m, rfl, hm, h.1, h.2⟩

theorem wrap_ok (ts : Array TypeId) (t : TypeId) (a : Addr) (s n : String) : Builtin.ssaWrapNilChk_ ts t #[.pointer (some a), strVal s, strVal n] = pure (.pointer (some a)) := rfl

theorem method_val (fuel : Nat) (name : String) (f : Nat) (h : ((Yba.prog.info? 67).bind fun i => i.methods.find? (·.name == name)).map (fun m => (m.path, m.func)) = some (#[], some (f, false)))
    (S : Nat) (a : Option Addr) (n c : Nat) (w : World) (hS : w.cell? ⟨S, 9, none⟩ = some (.slice a n c)) :
    (method (fuel + 1) 67 (.pointer (some ⟨S, 9, none⟩)) name).run Yba.prog w = .ok (f, .slice a n c) w := by
  obtain ⟨i, m, hi, hm, hp, hf⟩ := meth_row name f h
  simp [method, typeInfo, hi, hm, hp, hf, follow, receiverAt, run_underlying Yba.underlying67, Place.get, wrap_ok, hS, go_sem]

theorem method_len (S : Nat) (a : Option Addr) (n c : Nat) (w : World) (hS : w.cell? ⟨S, 9, none⟩ = some (.slice a n c)) : (method 352 67 (.pointer (some ⟨S, 9, none⟩)) "Len").run Yba.prog w = .ok (85, .slice a n c) w :=
  method_val 351 "Len" 85 (by kernel_rfl) S a n c w hS
theorem method_less (S : Nat) (a : Option Addr) (n c : Nat) (w : World) (hS : w.cell? ⟨S, 9, none⟩ = some (.slice a n c)) : (method 352 67 (.pointer (some ⟨S, 9, none⟩)) "Less").run Yba.prog w = .ok (86, .slice a n c) w :=
  method_val 351 "Less" 86 (by kernel_rfl) S a n c w hS
theorem method_swap (S : Nat) (a : Option Addr) (n c : Nat) (w : World) (hS : w.cell? ⟨S, 9, none⟩ = some (.slice a n c)) : (method 352 67 (.pointer (some ⟨S, 9, none⟩)) "Swap").run Yba.prog w = .ok (87, .slice a n c) w :=
  method_val 351 "Swap" 87 (by kernel_rfl) S a n c w hS
end Go.Proofs.Ybulkdkyy
