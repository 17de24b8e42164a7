import Derived.Test.YbulkdlaoFmtBs
import Derived.Shelf.SlSortCmp.NoneTotal
namespace Go.Proofs.YbulkdlaoFmt
set_option linter.unusedVariables false
set_option linter.unusedSimpArgs false
open Go.RowKit
open Go.Sort (grow)
attribute [local go_sem ↓] Go.wp_at_zero Go.wp_at_succ

set_option maxRecDepth 20000 in
theorem idx_nil (fv : Value) (w : World) : Calls Ybaf.prog 48 #[.slice none 0 0, fv] w fun r w' => r = .returned (.int .i64 (-1)) ∧ w' = w := by
  go_enter Ybaf.func48, Ybaf.ntmps48
  go_wp2_with fail
  refine wp_loop_rounds 1 ?_
  rw [rounds_succ]
  go_wp2_with fail
  go_ret
  exact ⟨rfl, rfl⟩

set_option maxRecDepth 20000 in
theorem del_nil (fv : Value) (w : World) : Calls Ybaf.prog 31 #[.slice none 0 0, fv] w fun r w' => r = .returned (.slice none 0 0) ∧ w' = w := by
  go_enter Ybaf.func31, Ybaf.ntmps31
  go_wp2_with fail
  refine (idx_nil fv w).mono ?_
  rintro r w1 ⟨rfl, rfl⟩
  go_wp2_with fail
  go_ret
  exact ⟨rfl, rfl⟩

set_option maxRecDepth 20000 in
set_option maxHeartbeats 1000000 in
theorem new_nil (ids : ByteArray) (w : World) : Calls Ybaf.prog 16 #[.slice none 0 0, .string ids] w fun r w' => r = .returned (.tuple #[.agg #[.slice none 0 0, .string ids], .nilIface]) ∧ Below w.heap.size w w' := by
  have hsort : ∀ fv w, Calls Ybaf.prog 27 #[.slice none 0 0, fv] w fun r w' => r = .returned (.tuple #[]) ∧ w' = w := fun fv w => AnyF.slices_SortFunc_none { Ybaf.lsort with } none 0 fv w
  have hdel := fun fv w => del_nil fv w
  obtain ⟨wA, hwA⟩ : ∃ wA, wA = (w.alloc (.cells #[.string ids] 9)).alloc (.cells #[.slice none 0 0, .string ⟨#[]⟩] 26) := ⟨_, rfl⟩
  have hbA : Below w.heap.size w wA := by rw [hwA]; exact ((Below.refl _ w).alloc (Nat.le_refl _) _).alloc (by simp) _
  obtain ⟨I, hI⟩ : ∃ I, I = w.heap.size := ⟨_, rfl⟩
  obtain ⟨C0, hC0⟩ : ∃ C0, C0 = w.heap.size + 1 := ⟨_, rfl⟩
  have hIb : wA.heap[I]? = some (.cells #[.string ids] 9) := by
    rw [hwA, hI, RowKit.Below.heap_alloc _ _ _ (by simp)]; exact heap_alloc_new _ _
  have hCb : wA.heap[C0]? = some (.cells #[.slice none 0 0, .string ⟨#[]⟩] 26) := by
    rw [hwA, hC0]
    have := heap_alloc_new (w.alloc (.cells #[.string ids] 9)) (.cells #[.slice none 0 0, .string ⟨#[]⟩] 26)
    simpa using this
  have cI : wA.cell? ⟨I, 0, none⟩ = some (.string ids) := by simp [World.cell?, hIb]
  have hIl := N2lt hIb
  have hCl := N2lt hCb
  have hnew : w.heap.size ≤ C0 := by omega
  go_enter Ybaf.func16, Ybaf.ntmps16
  go_wp2_with fail
  rw [← hwA, ← hC0, ← hI]
  clear hwA hC0 hI
  with_reducible refine (hsort _ _).mono ?_
  rintro r w1 ⟨rfl, rfl⟩
  go_wp2_with fail
  refine wp_loop_rounds 1 ?_
  rw [rounds_succ]
  go_upto_region 8 with fail
  go_cut [8] from 37 to 40 (fun pv wc => ∃ C, pv = .pointer (some ⟨C, 0, none⟩) ∧ wc.heap[C]? = some (.cells #[.slice none 0 0, .string ids] 26) ∧ Below w1.heap.size w1 wc)
  case first =>
    have hca : ∀ o, (w1.alloc o).drew.cell? ⟨I, 0, none⟩ = some (.string ids) := fun o => (World.cell?_of_block (RowKit.Below.heap_alloc _ _ _ hIl)).trans cI
    go_region_held3 (fun w' => w'.cell? ⟨I, 0, none⟩ = some (.string ids))
      (first
        | exact cI
        | exact hca _
        | exact (World.cell?_of_block (RowKit.Below.heap_alloc _ _ _ hIl)).trans cI
        | go_keep)
      ((go_at_call 31; with_reducible refine (hdel _ _).mono ?_; rintro r w2 ⟨rfl, rfl⟩))
    · go_wp2_with fail
      go_meet
      case rel => exact ⟨w1.heap.size, rfl, heap_alloc_new w1 _, ((Below.refl _ _).alloc (Nat.le_refl _) _).drew⟩
    · go_wp2_with fail
      go_meet
      case rel => exact ⟨w1.heap.size, rfl, heap_alloc_new w1 _, ((Below.refl _ _).alloc (Nat.le_refl _) _).drew⟩
  case rest =>
    obtain ⟨C, rfl, hCb2, hbC⟩ := hcut
    have q0 : wc.cell? ⟨C, 0, none⟩ = some (.slice none 0 0) := by simp [World.cell?, hCb2]
    have q1 : wc.cell? ⟨C, 1, none⟩ = some (.string ids) := by simp [World.cell?, hCb2]
    have hC2 : wc.heap[C0]? = some (.cells #[.slice none 0 0, .string ⟨#[]⟩] 26) := (hbC.block C0 hCl).trans hCb
    have z0 : wc.cell? ⟨C0, 0, none⟩ = some (.slice none 0 0) := by simp [World.cell?, hC2]
    have z1 : wc.cell? ⟨C0, 1, none⟩ = some (.string ⟨#[]⟩) := by simp [World.cell?, hC2]
    have f0 : wc.frozen? ⟨C0, 0, none⟩ = false := by simp [World.frozen?, hC2]
    have f1 : wc.frozen? ⟨C0, 1, none⟩ = false := by simp [World.frozen?, hC2]
    go_wp2_with fail
    refine wp_loop_rounds 1 ?_
    rw [rounds_succ]
    go_wp2_with fail
    have hb1 := boxset (boxset hC2 0 (.slice none 0 0)) 1 (.string ids)
    generalize hWW : ((wc.setCell ⟨C0, 0, none⟩ (.slice none 0 0)).setCell ⟨C0, 1, none⟩ (.string ids)) = WW at *
    have n0 : WW.cell? ⟨C0, 0, none⟩ = some (.slice none 0 0) := by simp [World.cell?, hb1]
    have n1 : WW.cell? ⟨C0, 1, none⟩ = some (.string ids) := by simp [World.cell?, hb1]
    have hbW : Below w.heap.size w WW := by
      have h1 : Below w.heap.size w wc := hbA.trans (hbC.mono hbA.size)
      rw [← hWW]
      exact (h1.setCell (p := ⟨C0, 0, none⟩) hnew _).setCell (p := ⟨C0, 1, none⟩) hnew _
    refine bodyPost_ret (v := .tuple #[.agg #[.slice none 0 0, .string ids], .nilIface]) ?_ rfl ⟨rfl, hbW⟩
    simp [results, Ybaf.results16, go_sem, n0, n1]
end Go.Proofs.YbulkdlaoFmt
