import Derived.Test.YbulkdlaoFmtNew
import Derived.Maps.AppendAt
import Derived.Laws.OwnMore
namespace Go.Proofs.YbulkdlaoFmt
set_option linter.unusedVariables false
set_option linter.unusedSimpArgs false
open Go.RowKit
open Go.Sort (grow)

/-- A box of n cells, each known. -/
def FB (w : World) (b n : Nat) (t : TypeId) (f : Nat → Value) : Prop := w.heap[b]? = some (.cells ((List.range n).map f).toArray t)
namespace FB
variable {w w' : World} {b n : Nat} {t : TypeId} {f : Nat → Value}
theorem lt (h : FB w b n t f) : b < w.heap.size := N2lt h
theorem block (h : FB w b n t f) (hb : w'.heap[b]? = w.heap[b]?) : FB w' b n t f := hb.trans h
theorem cell (h : FB w b n t f) {k : Nat} (hk : k < n) : w.cell? ⟨b, k, none⟩ = some (f k) := by
  unfold FB at h
  simp [World.cell?, h, hk]
theorem frozen (h : FB w b n t f) (k : Nat) : w.frozen? ⟨b, k, none⟩ = false := by
  unfold FB at h
  simp [World.frozen?, h]
theorem set (h : FB w b n t f) {k : Nat} (hk : k < n) (v : Value) : FB (w.setCell ⟨b, k, none⟩ v) b n t (fun j => if j = k then v else f j) := by
  unfold FB at h ⊢
  rw [boxset h k v]
  congr 2
  apply Array.ext
  · simp
  · intro i h1 h2
    simp at h1
    rw [Array.getElem_setIfInBounds]
    · by_cases e : k = i
      · subst e; simp
      · rw [if_neg e, List.getElem_toArray, List.getElem_toArray, List.getElem_map, List.getElem_map, List.getElem_range, if_neg (Ne.symm e)]
    · simpa using h1
end FB

theorem info34 : (Ybaf.prog.info? 34).map (fun i => (i.zero, i.size, i.bytes)) = some (some (.agg #[.int .u64 0, .int .u64 0, .int .i64 0]), 3, 24) := by kernel_rfl

/-- A row of entries that the slice owns. -/
def OR (w : World) (v : Value) (es : List En) : Prop := w.ownsRow 0 34 3 v es.length (es.flatMap encE)
theorem fl_get : ∀ (l : List En) (i r : Nat) (e : En), l[i]? = some e → r < 3 → (l.flatMap encE)[i * 3 + r]? = (encE e)[r]?
  | [], i, r, e, h, _ => by simp at h
  | a :: l, 0, r, e, h, hr => by
    simp at h
    subst h
    rw [List.flatMap_cons, List.getElem?_append_left (by rw [encE_len]; omega)]
    simp
  | a :: l, i + 1, r, e, h, hr => by
    rw [List.flatMap_cons, List.getElem?_append_right (by rw [encE_len]; omega), encE_len, show (i + 1) * 3 + r - 3 = i * 3 + r by omega]
    exact fl_get l i r e (by simpa using h) hr

theorem OR.slice {w : World} {v : Value} {es : List En} (h : OR w v es) : (v = .slice none 0 0 ∧ es = []) ∨ ∃ g cap, v = .slice (some ⟨g, 0, none⟩) es.length cap ∧ RW w g es ∧ es.length ≤ cap ∧ cap ≤ maxLen ∧ g < w.heap.size := by
  obtain ⟨_, h | ⟨g, cap, cur, hv, _, hb, h1, h2, h3, h4⟩⟩ := h
  · exact .inl ⟨h.1, List.length_eq_zero_iff.1 h.2⟩
  · right
    refine ⟨g, cap, hv, ?_, h1, h2, N2lt hb⟩
    have key : ∀ (i r : Nat) (e : En), es[i]? = some e → r < 3 → w.cell? ⟨g, i * 3 + r, none⟩ = (encE e)[r]? := fun i r e he hr => by
      have hi := (List.getElem?_eq_some_iff.1 he).1
      have e1 : (cur.toList.take (es.length * 3))[i * 3 + r]? = (encE e)[r]? := by rw [h4]; exact fl_get es i r e he hr
      rw [List.getElem?_take, if_pos (by omega)] at e1
      simp [World.cell?, hb, ← e1]
    exact ⟨fun i e he => key i 0 e he (by omega), fun i e he => key i 1 e he (by omega), fun i e he => key i 2 e he (by omega), fun o _ => by simp [World.frozen?, hb]⟩

theorem OR.block {w w' : World} {v : Value} {es : List En} (h : OR w v es) (hb : ∀ g, v.ownBlock = some g → w'.heap[g]? = w.heap[g]?) : OR w' v es := by
  obtain ⟨h0, h | ⟨g, cap, cur, hv, hb0, hbl, h1, h2, h3, h4⟩⟩ := h
  · exact ⟨h0, .inl h⟩
  · exact ⟨h0, .inr ⟨g, cap, cur, hv, hb0, (hb g (by rw [hv]; rfl)).trans hbl, h1, h2, h3, h4⟩⟩
theorem OR.obj {w : World} {v : Value} {es : List En} (h : OR w v es) {g : Nat} (hg : v.ownBlock = some g) : ∃ cur, w.heap[g]? = some (.cells cur 34) := by
  obtain ⟨_, h | ⟨g', cap, cur, hv, hb0, hbl, _⟩⟩ := h
  · rw [h.1] at hg; cases hg
  · rw [hv] at hg; cases hg; exact ⟨cur, hbl⟩
end Go.Proofs.YbulkdlaoFmt
