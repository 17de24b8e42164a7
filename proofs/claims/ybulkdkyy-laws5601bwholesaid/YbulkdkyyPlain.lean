/- PLAIN: a binary heap over a function of places; exchanging two places of a list. No Go in sight. -/
namespace Go.Proofs.Ybulkdkyy
set_option linter.unusedVariables false
set_option linter.unusedSimpArgs false

def HeapOn (f : Nat → Int) (m : Nat) : Prop := ∀ c, 0 < c → c < m → f ((c - 1) / 2) ≤ f c
def UpInv (f : Nat → Int) (m j : Nat) : Prop :=
  (∀ c, 0 < c → c < m → c ≠ j → f ((c - 1) / 2) ≤ f c) ∧ (∀ c, 0 < c → c < m → (c - 1) / 2 = j → 0 < j → f ((j - 1) / 2) ≤ f c)
def DownInv (f : Nat → Int) (m i : Nat) : Prop :=
  (∀ c, 0 < c → c < m → (c - 1) / 2 ≠ i → f ((c - 1) / 2) ≤ f c) ∧ (∀ c, 0 < c → c < m → (c - 1) / 2 = i → 0 < i → f ((i - 1) / 2) ≤ f c)
def swapF (f : Nat → Int) (i j : Nat) : Nat → Int := fun p => if p = i then f j else if p = j then f i else f p

theorem swapF_left (f : Nat → Int) (i j : Nat) : swapF f i j i = f j := by simp [swapF]
theorem swapF_right (f : Nat → Int) (i j : Nat) (h : j ≠ i) : swapF f i j j = f i := by simp [swapF, h]
theorem swapF_other (f : Nat → Int) (i j p : Nat) (h : p ≠ i) (h' : p ≠ j) : swapF f i j p = f p := by simp [swapF, h, h']

theorem up_step {f : Nat → Int} {m j : Nat} (h : UpInv f m j) (h0 : 0 < j) (hj : j < m) (hlt : f j < f ((j - 1) / 2)) : UpInv (swapF f ((j - 1) / 2) j) m ((j - 1) / 2) := by
  obtain ⟨h1, h2⟩ := h
  have hij : (j - 1) / 2 ≠ j := by omega
  refine ⟨fun c c0 cm cn => ?_, fun c c0 cm ce i0 => ?_⟩
  · by_cases e : c = j
    · subst e
      rw [swapF_left, swapF_right _ _ _ (Ne.symm hij)]; omega
    · rw [swapF_other f _ _ c cn e]
      by_cases e2 : (c - 1) / 2 = (j - 1) / 2
      · rw [e2, swapF_left]
        have := h1 c c0 cm e
        rw [e2] at this; omega
      · by_cases e3 : (c - 1) / 2 = j
        · rw [e3, swapF_right _ _ _ (Ne.symm hij)]
          exact h2 c c0 cm e3 h0
        · rw [swapF_other f _ _ _ e2 e3]; exact h1 c c0 cm e
  · have g := h1 ((j - 1) / 2) i0 (by omega) hij
    have hp1 : ((j - 1) / 2 - 1) / 2 ≠ (j - 1) / 2 := by omega
    have hp2 : ((j - 1) / 2 - 1) / 2 ≠ j := by omega
    rw [swapF_other f _ _ _ hp1 hp2]
    by_cases e : c = j
    · subst e
      rw [swapF_right _ _ _ (Ne.symm hij)]; exact g
    · rw [swapF_other f _ _ c (by omega) e]
      have := h1 c c0 cm e
      rw [ce] at this; omega

theorem up_done {f : Nat → Int} {m j : Nat} (h : UpInv f m j) (hd : j = 0 ∨ ¬ f j < f ((j - 1) / 2)) : HeapOn f m := by
  intro c c0 cm
  by_cases e : c = j
  · subst e
    rcases hd with hd | hd
    · omega
    · omega
  · exact h.1 c c0 cm e

theorem down_step {f : Nat → Int} {m i j : Nat} (h : DownInv f m i) (hj : j < m) (hc : j = 2 * i + 1 ∨ j = 2 * i + 2) (hmin : ∀ c, c < m → c = 2 * i + 1 ∨ c = 2 * i + 2 → f j ≤ f c) (hlt : f j < f i) : DownInv (swapF f i j) m j := by
  obtain ⟨h1, h2⟩ := h
  have hij : j ≠ i := by omega
  have hjp : (j - 1) / 2 = i := by omega
  refine ⟨fun c c0 cm cn => ?_, fun c c0 cm ce j0 => ?_⟩
  · by_cases e : (c - 1) / 2 = i
    · rw [e, swapF_left]
      by_cases ec : c = j
      · subst ec; rw [swapF_right _ _ _ hij]; omega
      · rw [swapF_other f _ _ c (by omega) ec]
        exact hmin c cm (by omega)
    · rw [swapF_other f _ _ _ e cn]
      by_cases ec : c = i
      · subst ec
        rw [swapF_left]
        exact h2 j (by omega) hj hjp c0
      · by_cases ec' : c = j
        · omega
        · rw [swapF_other f _ _ c ec ec']; exact h1 c c0 cm e
  · rw [hjp, swapF_left]
    have hne : c ≠ i := by omega
    have hne' : c ≠ j := by omega
    rw [swapF_other f _ _ c hne hne']
    have := h1 c c0 cm (by omega)
    rw [ce] at this; exact this

theorem down_done {f : Nat → Int} {m i : Nat} (h : DownInv f m i) (hd : ∀ c, c < m → c = 2 * i + 1 ∨ c = 2 * i + 2 → f i ≤ f c) : HeapOn f m := by
  intro c c0 cm
  by_cases e : (c - 1) / 2 = i
  · rw [e]; exact hd c cm (by omega)
  · exact h.1 c c0 cm e

theorem heap_min {f : Nat → Int} {m : Nat} (h : HeapOn f m) : ∀ c, c < m → f 0 ≤ f c := by
  intro c
  induction c using Nat.strongRecOn with
  | ind c ih =>
    intro cm
    by_cases e : c = 0
    · subst e; exact Int.le_refl _
    · have := ih ((c - 1) / 2) (by omega) (by omega)
      have := h c (by omega) cm
      omega

theorem nodup_inj {l : List Nat} (h : l.Nodup) {i j : Nat} (hi : i < l.length) (hj : j < l.length) (e : l[i] = l[j]) : i = j := by
  have h' := List.pairwise_iff_getElem.1 h
  rcases Nat.lt_trichotomy i j with c | c | c
  · exact absurd e (h' i j hi hj c)
  · exact c
  · exact absurd e.symm (h' j i hj hi c)

/-! exchanging two places of a list -/
def swapL (q : List Nat) (i j : Nat) : List Nat := (q.set i (q.getD j 0)).set j (q.getD i 0)

theorem swapL_length (q : List Nat) (i j : Nat) : (swapL q i j).length = q.length := by simp [swapL]

theorem getD_eq_getElem (q : List Nat) (j : Nat) (h : j < q.length) : q.getD j 0 = q[j] := by simp [List.getD, h]

theorem swapL_getD (q : List Nat) (i j p : Nat) (hi : i < q.length) (hj : j < q.length) (hp : p < q.length) : (swapL q i j).getD p 0 = if p = i then q.getD j 0 else if p = j then q.getD i 0 else q.getD p 0 := by
  simp only [swapL, List.getD, List.getElem?_set, List.length_set]
  by_cases e1 : j = p
  · subst e1
    by_cases e2 : j = i
    · subst e2; simp [hj]
    · simp [hj, e2]
  · by_cases e2 : i = p
    · subst e2
      have : ¬ i = j := fun h => e1 h.symm
      simp [e1, hi]
    · have e1' : ¬ p = j := fun h => e1 h.symm
      have e2' : ¬ p = i := fun h => e2 h.symm
      simp [e1, e2, e1', e2']

theorem swapL_perm (q : List Nat) (i j : Nat) (hi : i < q.length) (hj : j < q.length) : (swapL q i j).Perm q := by
  by_cases e : i = j
  · subst e
    have : swapL q i i = q := by
      apply List.ext_getElem
      · simp [swapL]
      · intro p h1 h2
        have := swapL_getD q i i p hi hi h2
        rw [getD_eq_getElem _ _ h1] at this
        rw [this]
        by_cases e : p = i
        · subst e; rw [if_pos rfl, getD_eq_getElem _ _ h2]
        · rw [if_neg e, if_neg e, getD_eq_getElem _ _ h2]
    rw [this]
  · have := List.set_set_perm (as := q) (i := i) (j := j) hi hj
    rw [swapL, getD_eq_getElem _ _ hi, getD_eq_getElem _ _ hj]; exact this

end Go.Proofs.Ybulkdkyy
