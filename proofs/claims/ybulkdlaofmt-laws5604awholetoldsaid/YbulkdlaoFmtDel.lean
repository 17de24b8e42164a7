import Derived.Test.YbulkdlaoFmtRow
namespace Go.Proofs.YbulkdlaoFmt
set_option linter.unusedVariables false
set_option linter.unusedSimpArgs false
open Go.RowKit
open Go.Sort (grow)

def live (e : En) : Bool := decide (e.n ≠ 0)

theorem idx_spec (x : En) : ∀ (l : List En) (i : Nat), (Lib.idxByFrom (fun _ y => decide (y.n = 0)) x l i = -1 ∧ ∀ e, e ∈ l → live e = true) ∨
    ∃ (j : Nat) (e : En), l[j]? = some e ∧ live e = false ∧ (∀ (t : Nat) (f : En), t < j → l[t]? = some f → live f = true) ∧ Lib.idxByFrom (fun _ y => decide (y.n = 0)) x l i = ((i + j : Nat) : Int)
  | [], i => .inl ⟨rfl, fun e he => by simp at he⟩
  | a :: r, i => by
    by_cases ha : a.n = 0
    · right
      exact ⟨0, a, rfl, by simp [live, ha], fun t f ht => by omega, by simp [Lib.idxByFrom, ha]⟩
    · rcases idx_spec x r (i + 1) with ⟨h1, h2⟩ | ⟨j, e, h1, h2, h3, h4⟩
      · left
        refine ⟨by simp [Lib.idxByFrom, ha, h1], fun e he => ?_⟩
        rcases List.mem_cons.1 he with rfl | he
        · simp [live, ha]
        · exact h2 e he
      · right
        refine ⟨j + 1, e, by simpa using h1, h2, fun t f ht hf => ?_, ?_⟩
        · cases t with
          | zero => simp at hf; subst hf; simp [live, ha]
          | succ t => exact h3 t f (by omega) (by simpa using hf)
        · simp only [Lib.idxByFrom]
          rw [if_neg (by simpa using ha), h4]
          omega

theorem RW.set {w : World} {g : Nat} {cur : List En} (h : RW w g cur) {i : Nat} (hi : i < cur.length) (e : En) :
    RW (((w.setCell ⟨g, i * 3, none⟩ (.int .u64 e.f)).setCell ⟨g, i * 3 + 1, none⟩ (.int .u64 e.n)).setCell ⟨g, i * 3 + 2, none⟩ (.int .i64 e.a)) g (cur.set i e) := by
  have hs : (((w.setCell ⟨g, i * 3, none⟩ (.int .u64 e.f)).setCell ⟨g, i * 3 + 1, none⟩ (.int .u64 e.n)).setCell ⟨g, i * 3 + 2, none⟩ (.int .i64 e.a)) = w.setCells g (i * 3) [.int .u64 e.f, .int .u64 e.n, .int .i64 e.a] := rfl
  rw [hs]
  have he0 : cur[i]? = some cur[i] := List.getElem?_eq_getElem hi
  have hin : ∀ j, j < 3 → (w.cell? ⟨g, i * 3 + j, none⟩).isSome = true := fun j hj => by
    have : j = 0 ∨ j = 1 ∨ j = 2 := by omega
    rcases this with rfl | rfl | rfl
    · rw [Nat.add_zero, h.c0 i _ he0]; rfl
    · rw [h.c1 i _ he0]; rfl
    · rw [h.c2 i _ he0]; rfl
  have hnew := World.cell?_setCells_in g [.int .u64 e.f, .int .u64 e.n, .int .i64 e.a] (i * 3) w hin
  have hout : ∀ t r, t ≠ i → r < 3 → (w.setCells g (i * 3) [.int .u64 e.f, .int .u64 e.n, .int .i64 e.a]).cell? ⟨g, t * 3 + r, none⟩ = w.cell? ⟨g, t * 3 + r, none⟩ := fun t r ht hr =>
    World.cell?_setCells_out g _ _ w _ (fun _ _ => by simp; omega)
  refine ⟨fun t f hf => ?_, fun t f hf => ?_, fun t f hf => ?_, fun o ho => ?_⟩
  · rw [List.getElem?_set] at hf
    by_cases ht : i = t
    · subst ht
      simp [hi] at hf
      subst hf
      exact hnew 0 (by simp)
    · rw [if_neg ht] at hf
      exact (hout t 0 (Ne.symm ht) (by omega)).trans (h.c0 t f hf)
  · rw [List.getElem?_set] at hf
    by_cases ht : i = t
    · subst ht
      simp [hi] at hf
      subst hf
      exact hnew 1 (by simp)
    · rw [if_neg ht] at hf
      exact (hout t 1 (Ne.symm ht) (by omega)).trans (h.c1 t f hf)
  · rw [List.getElem?_set] at hf
    by_cases ht : i = t
    · subst ht
      simp [hi] at hf
      subst hf
      exact hnew 2 (by simp)
    · rw [if_neg ht] at hf
      exact (hout t 2 (Ne.symm ht) (by omega)).trans (h.c2 t f hf)
  · rw [World.frozen?_setCells]
    exact h.fz o (by rw [List.length_set] at ho; exact ho)

/-- clear on a row's rest. -/
theorem clear_any {w : World} {g : Nat} {cur : List En} (h : RW w g cur) {i : Nat} (hi : i < cur.length) (c : Nat) :
    ∃ L : List Value, (∀ ty, (Builtin.clear_ #[24] ty #[.slice (some ⟨g, i * 3, none⟩) (cur.length - i) c]).run Ybaf.prog w = .ok (.tuple #[]) (w.setCells g (i * 3) L)) ∧ L.length = (cur.length - i) * 3 := by
  obtain ⟨m, hm⟩ : ∃ m, cur.length - i = m + 1 := ⟨cur.length - i - 1, by omega⟩
  have hz : ∀ w, (zeroValue 34).run Ybaf.prog w = .ok (.agg #[.int .u64 0, .int .u64 0, .int .i64 0]) w := fun w => by kernel_rfl
  have hlen : (Builtin.zeroCells #[Value.int .u64 0, .int .u64 0, .int .i64 0] (m + 1)).toList.length = (m + 1) * 3 := by simp [Builtin.zeroCells]
  have hone : ∀ v ∈ (Builtin.zeroCells #[Value.int .u64 0, .int .u64 0, .int .i64 0] (m + 1)).toList, v.oneCell' = true := fun v hv => by
    simp only [Builtin.zeroCells, Array.toList_map, List.mem_map] at hv
    obtain ⟨t, _, rfl⟩ := hv
    have h3 : t % 3 = 0 ∨ t % 3 = 1 ∨ t % 3 = 2 := by omega
    rcases h3 with e | e | e <;> simp [e, Value.oneCell']
  have hcell : ∀ o, o < cur.length * 3 → (w.cell? ⟨g, o, none⟩).isSome = true := fun o ho => by
    have hlt : o / 3 < cur.length := by omega
    have he := List.getElem?_eq_getElem hlt
    have h3 : o % 3 = 0 ∨ o % 3 = 1 ∨ o % 3 = 2 := by omega
    rcases h3 with e | e | e
    · rw [show o = o / 3 * 3 by omega, h.c0 _ _ he]; rfl
    · rw [show o = o / 3 * 3 + 1 by omega, h.c1 _ _ he]; rfl
    · rw [show o = o / 3 * 3 + 2 by omega, h.c2 _ _ he]; rfl
  have hst := run_storeCells_cells (P := Ybaf.prog) g (i * 3) (Builtin.zeroCells #[Value.int .u64 0, .int .u64 0, .int .i64 0] (m + 1)).toList 0 w (fun j hj => hcell _ (by rw [hlen] at hj; omega)) (fun j hj => h.fz _ (by rw [hlen] at hj; omega)) hone
  simp only [Nat.add_zero] at hst
  refine ⟨_, fun ty => ?_, by rw [hlen, hm]⟩
  rw [hm]
  simp [Builtin.clear_, run_underlying Ybaf.underlying24, hz, Value.cells, hst]
end Go.Proofs.YbulkdlaoFmt
