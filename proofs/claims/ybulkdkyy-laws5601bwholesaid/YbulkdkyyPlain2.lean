/- PLAIN: what has been popped, and what is left, against the sorted list. No Go in sight. -/
import Derived.Test.YbulkdkyyPlain
namespace Go.Proofs.Ybulkdkyy
set_option linter.unusedVariables false
set_option linter.unusedSimpArgs false

def srt (zs : List Int) : List Int := zs.mergeSort fun x y => decide (x ≤ y)
theorem srt_length (zs : List Int) : (srt zs).length = zs.length := List.length_mergeSort _
theorem srt_perm (zs : List Int) : (srt zs).Perm zs := List.mergeSort_perm _ _
theorem srt_asc (zs : List Int) : (srt zs).Pairwise (· ≤ ·) := by
  have := List.pairwise_mergeSort (le := fun x y : Int => decide (x ≤ y)) (by intro a b c; simp; omega) (by intro a b; simp; omega) zs
  exact this.imp (fun h => by simpa using h)

theorem asc_perm_eq : ∀ {l l' : List Int}, l.Perm l' → l.Pairwise (· ≤ ·) → l'.Pairwise (· ≤ ·) → l = l'
  | [], l', h, _, _ => (List.Perm.eq_nil h.symm).symm
  | x :: r, [], h, _, _ => absurd h.length_eq (by simp)
  | x :: r, y :: r', h, h1, h2 => by
    obtain ⟨a1, a2⟩ := List.pairwise_cons.1 h1
    obtain ⟨b1, b2⟩ := List.pairwise_cons.1 h2
    have hx : x ∈ y :: r' := h.mem_iff.1 (by simp)
    have hy : y ∈ x :: r := h.mem_iff.2 (by simp)
    have e : x = y := by
      have p1 : y ≤ x := by
        rcases List.mem_cons.1 hx with e | e
        · omega
        · exact b1 x e
      have p2 : x ≤ y := by
        rcases List.mem_cons.1 hy with e | e
        · omega
        · exact a1 y e
      omega
    subst e
    rw [asc_perm_eq (List.Perm.cons_inv h) a2 b2]

/-- What has been popped in order, all at or ahead of now; what is left, all behind it: the sorted list, parted. -/
theorem srt_split (zs : List Int) (z : Nat → Int) (n : Nat) (hz : zs = (List.range n).map z) (P q : List Nat) (now : Int) (hp : (P ++ q).Perm (List.range n)) (asc : P.Pairwise (fun a b => z a ≤ z b))
    (low : ∀ a, a ∈ P → z a ≤ now) (high : ∀ b, b ∈ q → now < z b) : srt zs = P.map z ++ srt (q.map z) := by
  apply asc_perm_eq
  · refine (srt_perm zs).trans ?_
    rw [hz]
    refine ((hp.map z).symm).trans ?_
    rw [List.map_append]
    exact List.Perm.append_left _ (srt_perm _).symm
  · exact srt_asc zs
  · rw [List.pairwise_append]
    refine ⟨List.pairwise_map.2 asc, srt_asc _, fun a ha b hb => ?_⟩
    obtain ⟨i, hi, rfl⟩ := List.mem_map.1 ha
    obtain ⟨j, hj, rfl⟩ := List.mem_map.1 ((srt_perm _).mem_iff.1 hb)
    have := low i hi
    have := high j hj
    omega

section
variable {zs : List Int} {z : Nat → Int} {n : Nat} {P q : List Nat} {now : Int}
theorem srt_low (hs : srt zs = P.map z ++ srt (q.map z)) {j : Nat} (hj : j < P.length) : (srt zs).getD j 0 = z (P.getD j 0) := by
  rw [hs]
  simp [List.getD, List.getElem?_append_left, hj]

theorem srt_high (hs : srt zs = P.map z ++ srt (q.map z)) (high : ∀ b, b ∈ q → now < z b) {j : Nat} (hj : P.length ≤ j) (hl : j < P.length + q.length) : now < (srt zs).getD j 0 := by
  rw [hs]
  have h2 : j - P.length < (srt (q.map z)).length := by rw [srt_length]; simp; omega
  have e : (P.map z ++ srt (q.map z)).getD j 0 = (srt (q.map z))[j - P.length] := by
    simp only [List.getD]
    rw [List.getElem?_append_right (by simpa using hj)]
    simp only [List.length_map]
    rw [List.getElem?_eq_getElem h2]; rfl
  rw [e]
  have hm : (srt (q.map z))[j - P.length] ∈ q.map z := (srt_perm _).mem_iff.1 (List.getElem_mem h2)
  obtain ⟨i, hi, e'⟩ := List.mem_map.1 hm
  rw [← e']; exact high i hi

/-- How many are at or ahead of now. -/
theorem count_eq (hs : srt zs = P.map z ++ srt (q.map z)) (low : ∀ a, a ∈ P → z a ≤ now) (high : ∀ b, b ∈ q → now < z b) (k : Nat) (hk : k ≤ P.length + q.length) (h1 : ∀ j, j < k → (srt zs).getD j 0 ≤ now) (h2 : k < P.length + q.length → now < (srt zs).getD k 0) : k = P.length := by
  rcases Nat.lt_trichotomy k P.length with h | h | h
  · have := h2 (by omega)
    rw [srt_low hs h] at this
    have hm : P.getD k 0 ∈ P := by rw [getD_eq_getElem _ _ h]; exact List.getElem_mem h
    have := low _ hm
    omega
  · exact h
  · have := h1 P.length h
    have := srt_high hs high (Nat.le_refl _) (by omega)
    omega

/-- The least of those left. -/
theorem srt_next (hs : srt zs = P.map z ++ srt (q.map z)) (hq : 0 < q.length) (hmin : ∀ b, b ∈ q → z (q.getD 0 0) ≤ z b) : (srt zs).getD P.length 0 = z (q.getD 0 0) := by
  rw [hs]
  have h2 : 0 < (srt (q.map z)).length := by rw [srt_length]; simpa using hq
  have e : (P.map z ++ srt (q.map z)).getD P.length 0 = (srt (q.map z))[0] := by
    simp only [List.getD]
    rw [List.getElem?_append_right (by simp)]
    simp only [List.length_map, Nat.sub_self]
    rw [List.getElem?_eq_getElem h2]; rfl
  rw [e]
  have hm : (srt (q.map z))[0] ∈ q.map z := (srt_perm _).mem_iff.1 (List.getElem_mem h2)
  obtain ⟨i, hi, e'⟩ := List.mem_map.1 hm
  have h3 := hmin i hi
  have hx : z (q.getD 0 0) ∈ srt (q.map z) := (srt_perm _).mem_iff.2 (List.mem_map.2 ⟨_, by rw [getD_eq_getElem _ _ hq]; exact List.getElem_mem hq, rfl⟩)
  obtain ⟨j, hj, ej⟩ := List.getElem_of_mem hx
  have h4 : (srt (q.map z))[0] ≤ (srt (q.map z))[j] := by
    rcases Nat.eq_zero_or_pos j with e0 | e0
    · subst e0; exact Int.le_refl _
    · exact List.pairwise_iff_getElem.1 (srt_asc _) 0 j h2 hj e0
  omega
end
end Go.Proofs.Ybulkdkyy
