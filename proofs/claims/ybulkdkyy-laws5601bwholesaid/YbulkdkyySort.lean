import Derived.Test.YbulkdkyyDue
import Derived.Test.YbulkdkyyShelf
import Derived.Test.YbulkdkyyPlain2
namespace Go.Proofs.Ybulkdkyy
set_option linter.unusedVariables false
set_option linter.unusedSimpArgs false
open Go.RowKit
open Go.Sort (grow putRow Holds)

theorem add_eq (b off j : Nat) : ((⟨b, off, none⟩ : Addr).add j) = ⟨b, off + j, none⟩ := by
  unfold Addr.add
  by_cases h : j = 0
  · simp [h]
  · simp [h]

theorem sort_any (gs cap : Nat) (zs : List Int) (w : World) (hgs : gs < w.heap.size) (hz : zs.length ≤ 65536)
    (hc : ∀ j, j < zs.length → w.cell? ⟨gs, j, none⟩ = some (.int .i64 (zs.getD j 0))) (hf : ∀ j, w.frozen? ⟨gs, j, none⟩ = false) :
    Calls Yba.prog 8 #[.slice (some ⟨gs, 0, none⟩) zs.length cap] w fun e w' => e = .returned (.tuple #[]) ∧ (∀ j, j < zs.length → w'.cell? ⟨gs, j, none⟩ = some (.int .i64 ((srt zs).getD j 0))) ∧ Kp (fun b => b = gs) w w' := by
  have hH : Holds (Value.int .i64) w gs 0 zs.toArray := by
    intro j hj
    simp at hj
    refine ⟨?_, by simpa using hf j⟩
    have := hc j hj
    simpa [List.getD, hj] using this
  have c := AnyM.slices_Sort_int Yba.lsort gs 0 cap zs w hH hgs (by omega)
  change Calls Yba.prog 8 _ _ _ at c
  refine c.mono ?_
  rintro e w' ⟨rfl, n, os, rfl⟩
  have hs : (srt zs).toArray.size = zs.toArray.size := by simp [srt_length]
  refine ⟨rfl, fun j hj => ?_, ?_⟩
  · have h1 : Holds (Value.int .i64) (putRow (Value.int .i64) (Go.Sort.ahead w n) gs 0 (srt zs).toArray) gs 0 (srt zs).toArray := Go.Sort.holds_putRow (Value.int .i64) (Go.Sort.ahead w n) gs 0 zs.toArray (srt zs).toArray hH hs
    have h2 := (h1 j (by simp [srt_length]; exact hj)).1
    rw [Go.Sort.cell?_grow _ _ _ (by simpa [Go.Sort.ahead] using hgs)]
    have hj' : j < (srt zs).length := by rw [srt_length]; exact hj
    simp [hj'] at h2
    simp only [srt] at h2 hj' ⊢
    rw [h2]; simp only [List.getD, List.getElem?_eq_getElem hj', Option.getD_some]
  · refine ⟨rfl, rfl, rfl, by simp [Go.Sort.ahead], fun b hb hne => ?_⟩
    rw [Go.Sort.heap_grow_old _ _ (by simpa [Go.Sort.ahead] using hb)]
    simp only [putRow, Go.Sort.mapBlock, Array.getElem?_modify, if_neg (show ¬ gs = b from fun e => hne e.symm), Go.Sort.ahead]

theorem Yba.info2 : (Yba.prog.info? 2).map (fun i => (i.zero, i.size, i.bytes)) = some (some (.int .i64 0), 1, 8) := by kernel_rfl

set_option maxRecDepth 10000 in
set_option maxHeartbeats 400000 in
theorem clone_any (b off n cap : Nat) (zs : List Int) (w : World) (hn : zs.length = n) (hn0 : 0 < n) (hn1 : n ≤ 65536)
    (hc : ∀ j, j < n → w.cell? ⟨b, off + j, none⟩ = some (.int .i64 (zs.getD j 0))) :
    Calls Yba.prog 7 #[.slice (some ⟨b, off, none⟩) n cap] w fun e w' => ∃ gs cap', e = .returned (.slice (some ⟨gs, 0, none⟩) n cap') ∧ w.heap.size ≤ gs ∧ gs < w'.heap.size ∧
      (∀ j, j < n → w'.cell? ⟨gs, j, none⟩ = some (.int .i64 (zs.getD j 0))) ∧ (∀ j, w'.frozen? ⟨gs, j, none⟩ = false) ∧ Below w.heap.size w w' := by
  have heq := fun w' => Lib.run_eql_slice_nil (P := Yba.prog) w' 22
  obtain ⟨i0, hi, hz0, hz1, hz2⟩ := info_parts Yba.info2
  have HN : Hid (zs.length = n) := hn
  go_enter Yba.func7, Yba.ntmps7
  go_wp2_with (at_builtin; refine wpList_append_own_at _ rfl _ _ 22 rfl w.heap.size 2 i0 (.int .i64 0) 1 8 Yba.underlying22 hi hz0 hz1 hz2 rfl (by decide) _ _ _ rfl (World.ownsRow_made w #[] 0 (Nat.le_refl _) (by unfold maxLen; omega) rfl) ⟨b, off, none⟩ n cap (zs.map (Value.int .i64)) rfl ?q0 ?q1 ?q2 ?q3 ?q4 ?q5 ?q6)
  case q0 => simpa using hn
  case q1 =>
    intro j u hu
    have hj : j < zs.length := by
      have := (List.getElem?_eq_some_iff.1 hu).1
      simpa using this
    rw [List.getElem?_map, List.getElem?_eq_getElem hj] at hu
    have := hc j (by omega)
    rw [add_eq, World.cell?_alloc_lt _ _ _ (block_lt_of_cell this), this]
    simp [List.getD, hj] at hu ⊢
    exact hu
  case q2 => intro u hu; simp at hu; obtain ⟨z, _, rfl⟩ := hu; rfl
  case q3 => unfold maxLen; omega
  case q4 => omega
  case q5 => simp
  intro v' w1 hown hgrow hnil hloc
  obtain ⟨gs, cap', hv, hge, hlt⟩ := hown.form (by omega)
  subst hv
  go_wp2
  go_ret
  refine ⟨gs, cap', rfl, hge, hlt, fun j hj => ?_, fun j => ?_, ?_⟩
  · have := hown.cells (g := gs) rfl j (.int .i64 (zs.getD j 0)) (by simp [List.getD, show j < zs.length from by omega])
    rw [add_eq, Nat.zero_add] at this; exact this
  · rcases hown.2 with ⟨hv, _⟩ | ⟨g', cap'', cur, hv, _, hb, _⟩
    · cases hv
    · simp only [Value.slice.injEq, Option.some.injEq, Addr.mk.injEq] at hv
      rw [hv.1.1]; simp [World.frozen?, hb]
  · refine ⟨hgrow.os, hgrow.tape, hgrow.output, ?_, fun k hk => ?_⟩
    · have := hgrow.size; simp at this; omega
    · rw [hgrow.block k (by simp; omega) (by simp [Value.ownBlock]; omega), RowKit.Below.heap_alloc _ _ _ hk]
end Go.Proofs.Ybulkdkyy
