import Derived.Test.YbulkdlaaMap
import Derived.Deep.RegionWith
import Derived.StillTailTactics
import Derived.BigQuiet
import Derived.Lib.QuietBelow
namespace Go.Proofs.Ybulkdlaa
set_option linter.unusedVariables false
set_option linter.unusedSimpArgs false
open Go.RowKit

theorem mixed : Yba.prog.follows .mixedOrders = true := by kernel_rfl
/-- A drawn region whose head only reads and whose tail comes last. -/
theorem region_tail {id : Nat} {Q : Exit → Act → World → Prop} {a : Act} {w : World} {l : List Oper} (n : Nat) (hB : Region.lexTailB .any l.toArray n = true)
    (h : wpStill Yba.prog l.toArray w.drew (fun a' => wpList Yba.prog l.toArray Q (l.drop n) a' w.drew) (l.take n) a) : (Code.region id l.toArray true).wp Yba.prog Q a w :=
  wp_region_still_tail n mixed hB h
theorem region_still {id : Nat} {Q : Exit → Act → World → Prop} {a : Act} {w : World} {l : List Oper} (hB : Region.lexB .any l.toArray = true)
    (h : wpStill Yba.prog l.toArray w.drew (fun a' => Q .normal a' w.drew) l a) : (Code.region id l.toArray true).wp Yba.prog Q a w :=
  wp_region_still_lit mixed hB h

def adv : ByteArray := ⟨#[97, 100, 118, 101, 114, 116, 105, 115, 101, 109, 101, 110, 116]⟩
def blkS : ByteArray := ⟨#[98, 108, 111, 99, 107]⟩
def spc (s : Int) : ByteArray := if s % 3 = 0 then ⟨#[]⟩ else if s % 3 = 1 then blkS else adv

theorem spc_size (s : Int) : (spc s).size ≤ maxLen := by
  unfold spc
  split
  · decide
  · split <;> decide

set_option maxHeartbeats 400000 in
theorem space_any (s : Int) (w : World) (h : 0 ≤ s ∧ s ≤ 255) : Calls Yba.prog 7 #[.int .u8 s] w fun e w' => e = .returned (.string (spc s)) ∧ w' = w := by
  have h3 : s % 3 = 0 ∨ s % 3 = 1 ∨ s % 3 = 2 := by omega
  rcases h3 with h3 | h3 | h3
  · have e : spc s = ⟨#[]⟩ := by unfold spc; rw [if_pos h3]
    rw [e]
    go_enter Yba.func7, Yba.ntmps7
    go_wp2
    go_ret
    exact ⟨rfl, rfl⟩
  · have e : spc s = blkS := by unfold spc; rw [if_neg (by omega), if_pos h3]
    rw [e]
    go_enter Yba.func7, Yba.ntmps7
    go_wp2
    go_ret
    exact ⟨rfl, rfl⟩
  · have e : spc s = adv := by unfold spc; rw [if_neg (by omega), if_neg (by omega)]
    rw [e]
    go_enter Yba.func7, Yba.ntmps7
    go_wp2
    go_ret
    exact ⟨rfl, rfl⟩

set_option maxHeartbeats 400000 in
theorem key_any (s : Int) (ns ky : ByteArray) (w : World) (h : 0 ≤ s ∧ s ≤ 255) :
    Calls Yba.prog 4 #[.agg #[.int .u8 s, .string ns, .string ky]] w fun e w' => e = .returned (kv (spc s, ns, ky)) ∧ Below w.heap.size w w' := by
  go_enter Yba.func4, Yba.ntmps4
  go_wp2_with fail
  refine region_tail 8 (by kernel_rfl) ?_
  simp only [List.take_succ_cons, List.take_zero, List.drop_succ_cons, List.drop_zero]
  still_step
  still_step
  still_call (space_any s _ h)
  repeat still_step
  refine wpStill_nil ?_
  go_wp2_with fail
  refine bodyPost_ret (v := kv (spc s, ns, ky)) (by simp [results, Yba.results4, go_sem, kv]) rfl ⟨rfl, ?_⟩
  exact (((Below.refl _ _).alloc (Nat.le_refl _) _).alloc (by simp) _).drew

theorem isZero_any (w : World) :
    Calls Yba.prog 6 #[.agg #[.int .u64 0, .int .i64 0, .pointer none]] w fun e w' => e = .returned (.bool true) ∧ Below w.heap.size w w' := by
  go_enter Yba.func6, Yba.ntmps6
  go_wp2
  go_ret
  exact ⟨rfl, (Below.refl _ _).alloc (Nat.le_refl _) _⟩
end Go.Proofs.Ybulkdlaa
