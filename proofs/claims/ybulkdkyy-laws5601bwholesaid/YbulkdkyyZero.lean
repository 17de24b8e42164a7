import Derived.Test.YbulkdkyyLaw
namespace Go.Proofs.Ybulkdkyy
set_option linter.unusedVariables false
set_option linter.unusedSimpArgs false
open Go.RowKit Go.MuLone
open Go.Sort (grow)

set_option maxRecDepth 10000 in
set_option maxHeartbeats 400000 in
theorem len64_zero (w : World) : Calls Yba.prog 40 #[.int .u64 0] w fun e w' => e = .returned (.int .i64 0) ∧ w' = w := by
  have h8 : Lib.len8 0 = 0 := by decide
  go_enter Yba.func40, Yba.ntmps40
  go_wp2
  go_ret
  exact ⟨rfl, rfl⟩

theorem len_zero (w : World) : Calls Yba.prog 18 #[.int .u64 0] w fun e w' => e = .returned (.int .i64 0) ∧ w' = w := by
  go_enter Yba.func18, Yba.ntmps18
  go_wp2_with fail
  refine (len64_zero w).mono ?_
  rintro e w' ⟨rfl, rfl⟩
  go_wp2_with fail
  go_ret
  exact ⟨rfl, rfl⟩

theorem ins_none (p : Option Addr) (cap : Nat) (w : World) : Calls Yba.prog 30 #[.slice p 0 cap, .int .i64 0, .int .i64 0] w fun e w' => e = .returned (.tuple #[]) ∧ w' = w := by
  go_enter Yba.func30, Yba.ntmps30
  go_wp2_with fail
  refine wp_loop_rounds 1 ?_
  rw [rounds_succ]
  go_wp2_with fail
  go_end0
  exact ⟨rfl, rfl⟩

theorem pdq_none (p : Option Addr) (cap : Nat) (w : World) : Calls Yba.prog 17 #[.slice p 0 cap, .int .i64 0, .int .i64 0, .int .i64 0] w fun e w' => e = .returned (.tuple #[]) ∧ w' = w := by
  go_enter Yba.func17, Yba.ntmps17
  go_wp2_with fail
  refine wp_loop_rounds 1 ?_
  rw [rounds_succ]
  go_wp2_with fail
  refine (ins_none p cap w).mono ?_
  rintro e w' ⟨rfl, rfl⟩
  go_wp2_with fail
  refine bodyPost_ret (results_none rfl _ _ _) rfl ?_
  exact ⟨rfl, rfl⟩

theorem sort_none (p : Option Addr) (cap : Nat) (w : World) : Calls Yba.prog 8 #[.slice p 0 cap] w fun e w' => e = .returned (.tuple #[]) ∧ w' = w := by
  go_enter Yba.func8, Yba.ntmps8
  go_wp2_with fail
  refine (len_zero w).mono ?_
  rintro e w' ⟨rfl, rfl⟩
  go_wp2_with fail
  refine (pdq_none p cap w').mono ?_
  rintro e w'' ⟨rfl, rfl⟩
  go_wp2_with fail
  go_end0
  exact ⟨rfl, rfl⟩

theorem clone_nil (w : World) : Calls Yba.prog 7 #[.slice none 0 0] w fun e w' => e = .returned (.slice none 0 0) ∧ w' = w := by
  have heq := fun w' => Lib.run_eql_slice_nil (P := Yba.prog) w' 22
  go_enter Yba.func7, Yba.ntmps7
  go_wp2_with fail
  go_ret
  exact ⟨rfl, rfl⟩

set_option maxRecDepth 10000 in
theorem clone_empty (x : Addr) (cap : Nat) (w : World) : Calls Yba.prog 7 #[.slice (some x) 0 cap] w fun e w' => ∃ p c', e = .returned (.slice p 0 c') ∧ Below w.heap.size w w' := by
  have heq := fun w' => Lib.run_eql_slice_nil (P := Yba.prog) w' 22
  obtain ⟨i0, hi, hz0, hz1, hz2⟩ := info_parts Yba.info2
  go_enter Yba.func7, Yba.ntmps7
  go_wp2_with (at_builtin; refine wpList_append_own_at _ rfl _ _ 22 rfl w.heap.size 2 i0 (.int .i64 0) 1 8 Yba.underlying22 hi hz0 hz1 hz2 rfl (by decide) _ _ _ rfl (World.ownsRow_made w #[] 0 (Nat.le_refl _) (by unfold maxLen; omega) rfl) x 0 cap [] rfl ?q0 ?q1 ?q2 ?q3 ?q4 ?q5 ?q6)
  case q0 => rfl
  case q1 => intro j u hu; simp at hu
  case q2 => simp
  case q3 => unfold maxLen; omega
  case q4 => omega
  case q5 => simp
  intro v' w1 hown hgrow hnil hloc
  obtain ⟨a, c', hv⟩ : ∃ a c', v' = .slice a 0 c' := by
    rcases hown.2 with ⟨hv, h0⟩ | ⟨g, cap, cur, hv, _⟩
    · exact ⟨none, 0, hv⟩
    · exact ⟨_, _, hv⟩
  subst hv
  go_wp2
  go_ret
  refine ⟨a, c', rfl, hgrow.os, hgrow.tape, hgrow.output, ?_, fun k hk => ?_⟩
  · have := hgrow.size; simp at this; omega
  · rw [hgrow.block k (by simp; omega) (by simp [Value.ownBlock]; omega), RowKit.Below.heap_alloc _ _ _ hk]

set_option maxRecDepth 10000 in
set_option maxHeartbeats 1000000 in
theorem due_nil (S c : Nat) (now : Int) (w : World) (hS : Srv w S 0 (.slice none 0 0) c) :
    Calls Yba.prog 9 #[.pointer (some ⟨S, 0, none⟩), .agg #[.int .u64 (nsOf now), .int .i64 (scOf now), .pointer none]] w fun e w' => e = .returned (.tuple #[.slice none 0 0, .agg #[.int .u64 0, .int .i64 0, .pointer none]]) ∧
      Srv w' S 0 (.slice none 0 0) c ∧ Kp (fun x => x = S) w w' := by
  obtain ⟨wb, hwb⟩ : ∃ wb, wb = (w.alloc (.cells #[.int .u64 (nsOf now), .int .i64 (scOf now), .pointer none] 49)).alloc (.cells #[.int .u64 0, .int .i64 0, .pointer none] 49) := ⟨_, rfl⟩
  have hbb : Below w.heap.size w wb := by rw [hwb]; exact ((Below.refl _ w).alloc (Nat.le_refl _) _).alloc (by simp) _
  have b1 : wb.heap[w.heap.size + 1]? = some (.cells #[.int .u64 0, .int .i64 0, .pointer none] 49) := by
    have := Deep.blk_alloc_new (w.alloc (.cells #[.int .u64 (nsOf now), .int .i64 (scOf now), .pointer none] 49)) (.cells #[.int .u64 0, .int .i64 0, .pointer none] 49)
    rw [World.size_alloc] at this; rw [hwb]; exact this
  have hsz : wb.heap.size = w.heap.size + 2 := by rw [hwb]; simp
  have hSb : Srv wb S 0 (.slice none 0 0) c := hS.of_block (hbb.block _ hS.lt)
  have hS0 := hS.lt
  go_enter_defers Yba.func9, Yba.ntmps9
  go_wp2_with fail
  rw [← hwb]
  refine (lock_any hSb).mono ?_
  rintro e w1 ⟨rfl, hS1, hk1⟩
  have c1 : w1.heap[w.heap.size + 1]? = some (.cells #[.int .u64 0, .int .i64 0, .pointer none] 49) := by rw [hk1.block _ (by omega) (by omega)]; exact b1
  clear hwb b1
  have hk1' : Kp (fun x => x = S) w w1 := (Kp.ofBelow hbb).trans hk1
  go_wp2_with fail
  refine wp_loop_rounds 1 ?_
  rw [rounds_succ]
  have hex := hS1.exp
  have hgt : decide ((0 : Int) < ((0 : Nat) : Int)) = false := by simp
  have k0 := fun dd os => cell_regrown hex dd os
  clear hex
  go_wp2_with fail
  refine wp_region_quiet_below (by kernel_rfl) (by kernel_rfl) ?_
  repeat (first | go_big_quiet_step (fail) | quiet_step (fail))
  refine wpQuiet_nil ?_
  intro w2 hw'
  obtain ⟨⟨dq, osq⟩, hw''⟩ := hw'
  have hb2 : Below w1.heap.size w1 w2 := by rw [hw'']; exact below_regrown w1 dq osq
  clear k0 hw''
  have hsz1 : w.heap.size + 2 ≤ w1.heap.size := by have := hk1.size; omega
  have hS2 := hS1.of_block (hb2.block _ hS1.lt)
  have hex2 := hS2.exp
  have e1 : w2.heap[w.heap.size + 1]? = some (.cells #[.int .u64 0, .int .i64 0, .pointer none] 49) := by rw [hb2.block _ (by omega)]; exact c1
  have y0 : w2.cell? ⟨w.heap.size + 1, 0, none⟩ = some (.int .u64 0) := by simp [World.cell?, e1]
  have y1 : w2.cell? ⟨w.heap.size + 1, 1, none⟩ = some (.int .i64 0) := by simp [World.cell?, e1]
  have y2 : w2.cell? ⟨w.heap.size + 1, 2, none⟩ = some (.pointer none) := by simp [World.cell?, e1]
  have f0 : w2.frozen? ⟨w.heap.size + 1, 0, none⟩ = false := by simp [World.frozen?, e1]
  have f1 : w2.frozen? ⟨w.heap.size + 1, 1, none⟩ = false := by simp [World.frozen?, e1]
  have f2 : w2.frozen? ⟨w.heap.size + 1, 2, none⟩ = false := by simp [World.frozen?, e1]
  have HR : Hid (w2.rowIs (w.heap.size + 1) 49 3 _) := row_of_block e1
  clear e1
  go_wp2_with fail
  refine wp_region_noPanic ?_
  go_region
  refine NoPanic.normal ?_
  go_wp2_with fail
  have hk5 : Kp (fun b => b = w.heap.size + 1) w2 (((w2.setCell ⟨w.heap.size + 1, 0, none⟩ (.int .u64 0)).setCell ⟨w.heap.size + 1, 1, none⟩ (.int .i64 0)).setCell ⟨w.heap.size + 1, 2, none⟩ (.pointer none)).drew :=
    ((((Kp.refl (fun b => b = w.heap.size + 1) w2).setCell (.inl rfl) _).setCell (.inl rfl) _).setCell (.inl rfl) _).drew
  obtain ⟨q0, q1, q2⟩ := three_cells HR.out (.int .u64 0) (.int .i64 0) (.pointer none)
  generalize (((w2.setCell ⟨w.heap.size + 1, 0, none⟩ (.int .u64 0)).setCell ⟨w.heap.size + 1, 1, none⟩ (.int .i64 0)).setCell ⟨w.heap.size + 1, 2, none⟩ (.pointer none)).drew = w5 at *
  have hNS : S ≠ w.heap.size + 1 := by omega
  have hS5 := hS2.of_block (hk5.block _ hS2.lt hNS)
  refine leaves_cons (f := 13) (args := #[.pointer (some ⟨S, 6, none⟩)]) (by simp) (by simp [go_sem]) ?_
  refine (unlock_deferred muLib ⟨S, 6, none⟩ .returning _ hS5.lock (hS5.frozen 6)).mono ?_
  rintro e u' w'' ⟨rfl, rfl, rfl⟩
  refine ⟨.tuple #[.slice none 0 0, .agg #[.int .u64 0, .int .i64 0, .pointer none]], by simp [results, Yba.results9, go_sem, q0, q1, q2], rfl, hS5.setLock 0, ?_⟩
  have h2 : Kp (fun x => x = S) w w2 := hk1'.trans (Kp.ofBelow hb2)
  have h5 : Kp (fun x => x = S) w w5 := ⟨hk5.os.trans h2.os, hk5.tape.trans h2.tape, hk5.output.trans h2.output, Nat.le_trans h2.size hk5.size, fun b hb ht => (hk5.block b (Nat.lt_of_lt_of_le hb h2.size) (by omega)).trans (h2.block b hb ht)⟩
  exact h5.setCell (.inl rfl) _

set_option maxRecDepth 10000 in
set_option maxHeartbeats 1000000 in
/-- The law behind Clone and Sort, at no deadline. -/
theorem law_zero (a : Option Addr) (cap : Nat) (now : Int) (w : World) (hnow : -9223372036854775808 ≤ now ∧ now ≤ 9223372036854775807) (ha : (a = none ∧ cap = 0) ∨ ∃ x, a = some x) :
    Calls Yba.prog 3 #[.slice a 0 cap, .int .i64 now] w fun e w' => e = .returned (.bool true) ∧ Below w.heap.size w w' := by
  have hmm := @run_makeMap Yba.prog
  have hmc := mkChan
  have hmk := run_make_row' (P := Yba.prog) 37 41 (.pointer none) 8 Yba.underlying37 Yba.info41 rfl .i64 .i64 0 (by omega) (by omega)
  have hmb := run_make_row' (P := Yba.prog) 59 4 (.bool false) 1 Yba.underlying59 (by kernel_rfl) rfl .i64 .i64 0 (by omega) (by omega)
  rw [show ((0 : Nat) : Int) = 0 from rfl] at hmk hmb
  have hcl : ∀ w, Calls Yba.prog 7 #[.slice a 0 cap] w fun e w' => ∃ p c', e = .returned (.slice p 0 c') ∧ Below w.heap.size w w' := fun w => by
    rcases ha with ⟨rfl, rfl⟩ | ⟨x, rfl⟩
    · exact (clone_nil w).mono (by rintro e w' ⟨rfl, rfl⟩; exact ⟨none, 0, rfl, Below.refl _ _⟩)
    · exact clone_empty x cap w
  clear ha
  go_enter Yba.func3, Yba.ntmps3
  go_wp2_with fail
  have hL0 : L1 w ((((w.alloc (.map #[] 0)).alloc (.chan 1 #[] false 0 0 false)).alloc (.cells #[.pointer none, .pointer none, .int .i64 0, .int .i64 0, .int .i64 0, .pointer none, .int .i32 0, .int .u32 0, .map (some w.heap.size), .slice none 0 0, .chan (some (w.heap.size + 1))] 40)).alloc (.cells (madeCells #[.pointer none] 0) 41)) 0 0 (fun _ => 0) (w.heap.size + 1 + 1) (w.heap.size + 1 + 1 + 1) (w.heap.size + 1) (w.heap.size + 4) (.slice none 0 0) (fun _ => 0) [] := law_start w 0 (fun _ => 0)
  have h0 := hL0.srv
  have hb0 := hL0.below
  clear hL0
  generalize (((w.alloc (.map #[] 0)).alloc (.chan 1 #[] false 0 0 false)).alloc (.cells #[.pointer none, .pointer none, .int .i64 0, .int .i64 0, .int .i64 0, .pointer none, .int .i32 0, .int .u32 0, .map (some w.heap.size), .slice none 0 0, .chan (some (w.heap.size + 1))] 40)).alloc (.cells (madeCells #[.pointer none] 0) 41) = w1 at *
  refine wp_loop_rounds 1 ?_
  rw [rounds_succ]
  go_wp2_with fail
  refine (hcl w1).mono ?_
  rintro e w2 ⟨p, cp, rfl, hb2⟩
  go_wp2_with fail
  refine (sort_none p cp w2).mono ?_
  rintro e w3 ⟨rfl, rfl⟩
  go_wp2_with fail
  refine wp_loop_rounds 1 ?_
  rw [rounds_succ]
  go_wp2_with fail
  refine (at_any now _ hnow).mono ?_
  rintro e w4 ⟨rfl, hb4⟩
  have h3 := h0.of_block (hb2.block _ h0.lt)
  have h4 := h3.of_block (hb4.block _ h3.lt)
  go_wp2_with fail
  refine (due_nil _ _ now w4 h4).mono ?_
  rintro e w5 ⟨rfl, hS5, hk5⟩
  have hB5 : Below w.heap.size w w5 := by
    have x2 := hb0.trans (hb2.mono hb0.size)
    have x4 := x2.trans (hb4.mono x2.size)
    exact x4.trans (hk5.below x4.size (fun b e => by omega))
  go_wp2_with fail
  obtain ⟨w6, hw6⟩ : ∃ w6, w6 = (w5.alloc (.cells #[.int .u64 0, .int .i64 0, .pointer none] 49)).alloc (.cells (madeCells #[.bool false] 0) 4) := ⟨_, rfl⟩
  rw [← hw6]
  have hb6 : Below w5.heap.size w5 w6 := by rw [hw6]; exact ((Below.refl _ w5).alloc (Nat.le_refl _) _).alloc (by simp) _
  have hbk : w6.heap[w5.heap.size]? = some (.cells #[.int .u64 0, .int .i64 0, .pointer none] 49) := by rw [hw6, RowKit.Below.heap_alloc _ _ _ (by simp)]; exact Deep.blk_alloc_new _ _
  have hrN := row_of_block hbk
  have c0 : w6.cell? ⟨w5.heap.size, 0, none⟩ = some (.int .u64 0) := hrN.cell (by omega)
  have c1 : w6.cell? ⟨w5.heap.size, 1, none⟩ = some (.int .i64 0) := hrN.cell (by omega)
  have c2 : w6.cell? ⟨w5.heap.size, 2, none⟩ = some (.pointer none) := hrN.cell (by omega)
  have hex := (hS5.of_block (hb6.block _ hS5.lt)).exp
  clear hrN hbk hw6
  refine wp_loop_rounds 1 ?_
  rw [rounds_succ]
  go_wp2_with fail
  refine wp_loop_rounds 1 ?_
  rw [rounds_succ]
  go_wp2_with fail
  refine (isZero_any w6).mono ?_
  rintro e w9 ⟨rfl, hb9⟩
  go_wp2_with fail
  go_ret
  have x6 := hB5.trans (hb6.mono hB5.size)
  exact ⟨rfl, x6.trans (hb9.mono x6.size)⟩

set_option maxRecDepth 10000 in
theorem law_big (a : Option Addr) (n cap : Nat) (now : Int) (w : World) (hn : 65536 < n) :
    Calls Yba.prog 3 #[.slice a n cap, .int .i64 now] w fun e w' => e = .returned (.bool true) ∧ Below w.heap.size w w' := by
  have hn' : (65536 : Int) < (n : Int) := by omega
  go_enter Yba.func3, Yba.ntmps3
  go_wp2_with fail
  go_ret
  exact ⟨rfl, Below.refl _ _⟩
end Go.Proofs.Ybulkdkyy
