import Derived.Test.YbulkdlaoFmtBox
namespace Go.Proofs.YbulkdlaoFmt
set_option linter.unusedVariables false
set_option linter.unusedSimpArgs false
open Go.RowKit
open Go.Sort (grow)

theorem filter_ge (a : Nat) : ∀ (l : List Nat), l.Nodup → l.length ≤ (l.filter (fun x => decide (x ≠ a))).length + 1
  | [], _ => by simp
  | x :: l, h => by
    have h2 := (List.nodup_cons.1 h).2
    have h1 := (List.nodup_cons.1 h).1
    by_cases e : x = a
    · have hself : l.filter (fun x => decide (x ≠ a)) = l := List.filter_eq_self.2 (fun y hy => by
        have : y ≠ a := fun e' => h1 (by rw [e, ← e']; exact hy)
        simpa using this)
      rw [List.filter_cons_of_neg (by simp [e]), hself]
      simp
    · rw [List.filter_cons_of_pos (by simpa using e)]
      have := filter_ge a l h2
      rw [List.length_cons, List.length_cons]; omega

theorem pigeon : ∀ (n : Nat) (l : List Nat), l.Nodup → (∀ x, x ∈ l → x < n) → l.length ≤ n
  | 0, l, _, h => by
    cases l with
    | nil => simp
    | cons a l => exact absurd (h a List.mem_cons_self) (by omega)
  | n + 1, l, hn, h => by
    have h1 := filter_ge n l hn
    have h2 := pigeon n (l.filter (fun x => decide (x ≠ n))) (hn.filter _) (fun x hx => by
      have hx' := List.mem_filter.1 hx
      have := h x hx'.1
      have h3 : x ≠ n := by simpa using hx'.2
      omega)
    omega

theorem ext_left {a b : ByteArray} {i j : Nat} (h : j ≤ a.size) : (a ++ b).extract i j = a.extract i j := by
  apply ByteArray.ext
  have h' : j ≤ a.data.size := h
  simp only [ByteArray.data_extract, ByteArray.data_append]
  apply Array.ext_getElem?
  intro t
  rw [Array.getElem?_extract, Array.getElem?_extract]
  by_cases ht : t < j - i
  · rw [if_pos (by rw [Array.size_append]; omega), if_pos (by omega), Array.getElem?_append_left (by omega)]
  · rw [if_neg (by rw [Array.size_append]; omega), if_neg (by omega)]

theorem ext_right {a b : ByteArray} : (a ++ b).extract a.size (a.size + b.size) = b := by
  apply ByteArray.ext
  simp only [ByteArray.data_extract, ByteArray.data_append]
  apply Array.ext_getElem?
  intro t
  have e1 : a.size = a.data.size := rfl
  have e2 : b.size = b.data.size := rfl
  rw [Array.getElem?_extract]
  by_cases ht : t < b.data.size
  · rw [if_pos (by rw [Array.size_append]; omega), Array.getElem?_append_right (by omega)]
    congr 1
    omega
  · rw [if_neg (by rw [Array.size_append]; omega), Array.getElem?_eq_none (by omega)]

theorem app_size (a b : ByteArray) : (a ++ b).size = a.size + b.size := by
  show (a ++ b).data.size = _
  rw [ByteArray.data_append, Array.size_append]; rfl

def newE (ids : ByteArray) (n k : Nat) : En := ⟨((nm k).size : Int) * 1048576, n, ids.size, k⟩
def lenB : Bool := (List.range 12).all fun k => decide (flen (((nm k).size : Int) * 1048576) = ((nm k).size : Int))
theorem lenOk : lenB = true := by kernel_rfl
theorem ok_new {ids : ByteArray} {n k : Nat} (hk : k < 12) : Ok (ids ++ nm k) (newE ids n k) := by
  have h := List.all_eq_true.1 (show lenB = true from lenOk) k (List.mem_range.2 hk)
  refine ⟨hk, ?_, by show flen (((nm k).size : Int) * 1048576) = ((nm k).size : Int); simpa using h, ?_, ?_⟩
  · show (0 : Int) ≤ ((nm k).size : Int) * 1048576
    omega
  · show ids.size + (nm k).size ≤ (ids ++ nm k).size
    rw [app_size]; exact Nat.le_refl _
  · show (ids ++ nm k).extract ids.size (ids.size + (nm k).size) = nm k
    exact ext_right
theorem ok_old {ids b : ByteArray} {e : En} (h : Ok ids e) : Ok (ids ++ b) e :=
  ⟨h.k, h.f, h.len, by rw [app_size]; have := h.fits; omega, by rw [ext_left h.fits]; exact h.id⟩

/-- The state of the loop that builds a clock. -/
structure BS (w wr : World) (V U : Nat) (val : Nat → Nat) (us : Nat → Bool) (v : Value) (es : List En) (ids : ByteArray) : Prop where
  vb : FB wr V 12 28 (fun k => .int .u64 (val k))
  ub : FB wr U 12 54 (fun k => .bool (us k))
  row : OR wr v es
  ok : ∀ e, e ∈ es → Ok ids e
  nd : (es.map (·.k)).Nodup
  usd : ∀ k, k < 12 → (us k = true ↔ ∃ e, e ∈ es ∧ e.k = k)
  vals : ∀ k, k < 12 → (∃ e, e ∈ es ∧ e.k = k ∧ e.n = val k) ∨ ((∀ e, e ∈ es → e.k ≠ k) ∧ val k = 0)
  below : Below w.heap.size w wr
  newV : w.heap.size ≤ V
  newU : w.heap.size ≤ U
  newR : ∀ g, v.ownBlock = some g → w.heap.size ≤ g
  isz : ids.size ≤ 30 * es.length
  nilv : es = [] → v = .slice none 0 0

namespace BS
variable {w wr w' : World} {V U : Nat} {val : Nat → Nat} {us : Nat → Bool} {v : Value} {es : List En} {ids : ByteArray}
theorem len (h : BS w wr V U val us v es ids) : es.length ≤ 12 := by
  have := pigeon 12 (es.map (·.k)) h.nd (fun x hx => by
    obtain ⟨e, he, rfl⟩ := List.mem_map.1 hx
    exact (h.ok e he).k)
  simpa using this
theorem neVU (h : BS w wr V U val us v es ids) : V ≠ U := fun e => by
  have h1 := h.vb
  have h2 := h.ub
  unfold FB at h1 h2
  rw [e, h2] at h1
  cases h1
theorem neR (h : BS w wr V U val us v es ids) {g : Nat} (hg : v.ownBlock = some g) : g ≠ V ∧ g ≠ U := by
  obtain ⟨cur, hc⟩ := h.row.obj hg
  have h1 := h.vb
  have h2 := h.ub
  unfold FB at h1 h2
  refine ⟨fun e => ?_, fun e => ?_⟩
  · rw [← e, hc] at h1; cases h1
  · rw [← e, hc] at h2; cases h2

/-- A name that has not been picked yet. -/
theorem add (h : BS w wr V U val us v es ids) {k n : Nat} (hk : k < 12) (hu : us k = false) {wa w'' : World} {v' : Value} {o : Obj}
    (hwa : wa = (wr.setCell ⟨U, k, none⟩ (.bool true)).setCell ⟨V, k, none⟩ (.int .u64 n))
    (hown : w''.ownsRow 0 34 3 v' (es.length + 1) (es.flatMap encE ++ encE (newE ids n k))) (hg : (wa.alloc o).grownBy w'' v.ownBlock) (hloc : v'.ownBlock = v.ownBlock ∨ v'.ownBlock = some (wa.heap.size + 1)) :
    BS w w'' V U (fun j => if j = k then n else val j) (fun j => if j = k then true else us j) v' (es ++ [newE ids n k]) (ids ++ nm k) := by
  have hno : ∀ e, e ∈ es → e.k ≠ k := fun e he e' => by
    have := (h.usd k hk).2 ⟨e, he, e'⟩
    rw [hu] at this; cases this
  have hVU := h.neVU
  have hsz : wa.heap.size = wr.heap.size := by rw [hwa, World.size_setCell, World.size_setCell]
  have hVl : V < wr.heap.size := h.vb.lt
  have hUl : U < wr.heap.size := h.ub.lt
  have hbk : ∀ b, b < wr.heap.size → v.ownBlock ≠ some b → w''.heap[b]? = wa.heap[b]? := fun b hb hne => by
    rw [hg.block b (by simp; omega) (fun e => hne e.symm), RowKit.Below.heap_alloc _ _ _ (by omega)]
  have hV1 : FB wa V 12 28 (fun j => .int .u64 ((if j = k then n else val j : Nat))) := by
    have h1 : FB (wr.setCell ⟨U, k, none⟩ (.bool true)) V 12 28 (fun k => .int .u64 (val k)) := h.vb.block (RowKit.Below.heap_setCell _ _ _ _ hVU)
    have h2 := h1.set hk (.int .u64 n)
    rw [← hwa] at h2
    have e1 : (fun j => if j = k then Value.int .u64 n else .int .u64 (val j)) = (fun j => .int .u64 ((if j = k then n else val j : Nat))) := by
      funext j; split <;> rfl
    rw [e1] at h2; exact h2
  have hU1 : FB wa U 12 54 (fun j => .bool (if j = k then true else us j)) := by
    have h1 := h.ub.set hk (.bool true)
    have h2 : FB wa U 12 54 (fun j => if j = k then .bool true else .bool (us j)) := by
      rw [hwa]; exact h1.block (RowKit.Below.heap_setCell _ _ _ _ (Ne.symm hVU))
    have e1 : (fun j => if j = k then Value.bool true else .bool (us j)) = (fun j => .bool (if j = k then true else us j)) := by
      funext j; split <;> rfl
    rw [e1] at h2; exact h2
  refine ⟨hV1.block (hbk V hVl (fun e => (h.neR e).1 rfl)), hU1.block (hbk U hUl (fun e => (h.neR e).2 rfl)), ?_, ?_, ?_, ?_, ?_, ?_, h.newV, h.newU, ?_, ?_, fun hn => by simp at hn⟩
  · unfold OR
    rw [List.length_append, List.flatMap_append]
    simpa using hown
  · intro e he
    rcases List.mem_append.1 he with he | he
    · exact ok_old (h.ok e he)
    · simp at he; subst he; exact ok_new hk
  · rw [List.map_append]
    refine List.nodup_append.2 ⟨h.nd, by simp, fun a ha b hb e => ?_⟩
    simp at hb
    obtain ⟨x, hx, rfl⟩ := List.mem_map.1 ha
    exact hno x hx (by rw [e, hb]; rfl)
  · intro j hj
    by_cases e : j = k
    · subst e
      simp
      exact .inr rfl
    · rw [if_neg e, h.usd j hj]
      constructor
      · rintro ⟨x, hx, rfl⟩; exact ⟨x, List.mem_append.2 (.inl hx), rfl⟩
      · rintro ⟨x, hx, rfl⟩
        rcases List.mem_append.1 hx with hx | hx
        · exact ⟨x, hx, rfl⟩
        · simp at hx; subst hx; exact absurd rfl e
  · intro j hj
    by_cases e : j = k
    · subst e
      left
      exact ⟨newE ids n j, by simp, rfl, by simp [newE]⟩
    · rcases h.vals j hj with ⟨x, hx, h1, h2⟩ | ⟨h1, h2⟩
      · left; exact ⟨x, List.mem_append.2 (.inl hx), h1, by rw [if_neg e]; exact h2⟩
      · right
        refine ⟨fun x hx => ?_, by rw [if_neg e]; exact h2⟩
        rcases List.mem_append.1 hx with hx | hx
        · exact h1 x hx
        · simp at hx; subst hx; exact fun e' => e e'.symm
  · refine h.below.trans ⟨?_, ?_, ?_, by have := hg.size; simp at this; omega, fun b hb => ?_⟩
    · rw [hg.os, hwa]; rfl
    · rw [hg.tape, hwa]; rfl
    · rw [hg.output, hwa]; rfl
    · have hs := h.below.size
      rw [hbk b (by omega) (fun e => by have := h.newR b e; omega), hwa, RowKit.Below.heap_setCell _ _ _ _ (show b ≠ V by have := h.newV; omega), RowKit.Below.heap_setCell _ _ _ _ (show b ≠ U by have := h.newU; omega)]
  · intro g hg'
    rcases hloc with e | e
    · exact h.newR g (by rw [← e]; exact hg')
    · rw [e] at hg'; simp at hg'; have := h.below.size; omega
  · rw [app_size, List.length_append]
    have := h.isz
    have := nm_size k
    simp; omega
theorem other {k n : Nat} {wa w'' : World} {o : Obj} (hwa : wa = (wr.setCell ⟨U, k, none⟩ (.bool true)).setCell ⟨V, k, none⟩ (.int .u64 n)) (hg : (wa.alloc o).grownBy w'' v.ownBlock) {b : Nat} (hb : b < wr.heap.size) (h1 : b ≠ U) (h2 : b ≠ V) (h3 : v.ownBlock ≠ some b) : w''.heap[b]? = wr.heap[b]? := by
  have hsz : wa.heap.size = wr.heap.size := by rw [hwa, World.size_setCell, World.size_setCell]
  rw [hg.block b (by simp; omega) (fun e => h3 e.symm), RowKit.Below.heap_alloc _ _ _ (by omega), hwa, RowKit.Below.heap_setCell _ _ _ _ (show b ≠ V from h2), RowKit.Below.heap_setCell _ _ _ _ (show b ≠ U from h1)]
end BS
end Go.Proofs.YbulkdlaoFmt
