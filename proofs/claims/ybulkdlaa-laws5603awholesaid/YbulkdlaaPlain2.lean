import Derived.Test.YbulkdlaaHeld
namespace Go.Proofs.Ybulkdlaa
set_option linter.unusedVariables false
set_option linter.unusedSimpArgs false
open Go.RowKit

/-- One namespace as the law keeps it: its name, whether its set is nil, its keys, the slice that holds them, the set's block. -/
structure NE where
  ns : ByteArray
  nil : Bool
  keys : List RK
  sv : Value
  im : Option Nat

def encN (e : NE) : List Value := [.string e.ns, .bool e.nil, e.sv]
theorem encN_len (e : NE) : (encN e).length = 3 := rfl

abbrev DN := List NE
def faOf (dn : DN) : ByteArray → Option Value := fun y => (dn.find? (fun e => decide (e.ns = y))).map (fun e => .map e.im)
def fsOf (keys : List RK) : RK → Option Value := fun x => (keys.find? (fun y => decide (y = x))).map (fun _ => .bool true)
def nsOf (dn : DN) : List ByteArray := dn.map (·.ns)

theorem fsOf_isSome {keys : List RK} {x : RK} : (fsOf keys x).isSome = true ↔ x ∈ keys := by
  unfold fsOf
  rw [Option.isSome_map, List.find?_isSome]
  constructor
  · rintro ⟨p, hp, e⟩
    have : p = x := by simpa using e
    rw [← this]; exact hp
  · intro h
    exact ⟨x, h, by simp⟩

theorem fsOf_mem {keys : List RK} {x : RK} (h : x ∈ keys) : fsOf keys x = some (.bool true) := by
  have h1 := fsOf_isSome.2 h
  unfold fsOf at h1 ⊢
  cases hf : keys.find? (fun y => decide (y = x)) with
  | none => rw [hf] at h1; simp at h1
  | some y => rfl

theorem fsOf_not {keys : List RK} {x : RK} (h : x ∉ keys) : fsOf keys x = none := by
  cases hf : fsOf keys x with
  | none => rfl
  | some v => exact absurd (fsOf_isSome.1 (by rw [hf]; rfl)) h

/-- A key is added to a set. -/
theorem fsOf_add {keys : List RK} {x : RK} (y : RK) : fsOf (keys ++ [x]) y = updM (fsOf keys) x (.bool true) y := by
  unfold updM
  by_cases e : y = x
  · rw [if_pos e, e]; exact fsOf_mem (by simp)
  · rw [if_neg e]
    by_cases h : y ∈ keys
    · rw [fsOf_mem h, fsOf_mem (List.mem_append.2 (.inl h))]
    · rw [fsOf_not h, fsOf_not (fun h' => by
        rcases List.mem_append.1 h' with h' | h'
        · exact h h'
        · simp at h'; exact e h')]

theorem fsOf_again {keys : List RK} {x : RK} (hx : x ∈ keys) (y : RK) : fsOf keys y = updM (fsOf keys) x (.bool true) y := by
  unfold updM
  by_cases e : y = x
  · rw [if_pos e, e]; exact fsOf_mem hx
  · rw [if_neg e]

theorem faOf_isSome {dn : DN} {y : ByteArray} : (faOf dn y).isSome = true ↔ y ∈ nsOf dn := by
  unfold faOf nsOf
  rw [Option.isSome_map, List.find?_isSome, List.mem_map]
  constructor
  · rintro ⟨p, hp, e⟩
    exact ⟨p, hp, by simpa using e⟩
  · rintro ⟨p, hp, e⟩
    exact ⟨p, hp, by simpa using e⟩

theorem faOf_none {dn : DN} {y : ByteArray} (h : ∀ e, e ∈ dn → e.ns ≠ y) : faOf dn y = none := by
  unfold faOf
  rw [List.find?_eq_none.2 (fun p hp => by simpa using h p hp)]; rfl

theorem faOf_mem : ∀ {dn : DN} {e : NE}, (nsOf dn).Nodup → e ∈ dn → faOf dn e.ns = some (.map e.im)
  | [], e, _, h => by simp at h
  | a :: r, e, hn, h => by
    simp only [nsOf, List.map_cons, List.nodup_cons] at hn
    rcases List.mem_cons.1 h with rfl | h
    · simp [faOf]
    · have hne : a.ns ≠ e.ns := fun e' => hn.1 (by rw [e']; exact List.mem_map_of_mem h)
      have := faOf_mem (dn := r) hn.2 h
      unfold faOf at this ⊢
      rw [List.find?_cons_of_neg (by simpa using hne)]; exact this

theorem nsOf_set {dn : DN} {t : Nat} {e e' : NE} (ht : dn[t]? = some e) (he : e'.ns = e.ns) : nsOf (dn.set t e') = nsOf dn := by
  unfold nsOf
  rw [List.map_set]
  apply List.ext_getElem?
  intro i
  rw [List.getElem?_set]
  by_cases h : t = i
  · subst h
    have hl := (List.getElem?_eq_some_iff.1 ht).1
    have hte : dn[t].ns = e.ns := by rw [List.getElem?_eq_getElem hl] at ht; cases ht; rfl
    simp [hl, hte, he]
  · simp [h]

theorem get_set_other {dn : DN} {t i : Nat} {e' : NE} (h : i ≠ t) : (dn.set t e')[i]? = dn[i]? := by
  rw [List.getElem?_set, if_neg (Ne.symm h)]
theorem get_set_same {dn : DN} {t : Nat} {e e' : NE} (ht : dn[t]? = some e) : (dn.set t e')[t]? = some e' := by
  rw [List.getElem?_set]; simp [(List.getElem?_eq_some_iff.1 ht).1]

/-- The map of sets behind a store at an entry's name. -/
theorem faOf_set {dn : DN} {t : Nat} {e e' : NE} (hn : (nsOf dn).Nodup) (ht : dn[t]? = some e) (he : e'.ns = e.ns) (y : ByteArray) : faOf (dn.set t e') y = updM (faOf dn) e.ns (.map e'.im) y := by
  have hn' : (nsOf (dn.set t e')).Nodup := by rw [nsOf_set ht he]; exact hn
  unfold updM
  by_cases hy : y = e.ns
  · rw [if_pos hy, hy, ← he]
    exact faOf_mem hn' (List.mem_iff_getElem?.2 ⟨t, get_set_same ht⟩)
  · rw [if_neg hy]
    by_cases h : ∃ f, f ∈ dn ∧ f.ns = y
    · obtain ⟨f, hf, hfe⟩ := h
      obtain ⟨i, hi⟩ := List.mem_iff_getElem?.1 hf
      have hit : i ≠ t := fun e1 => by subst e1; rw [ht] at hi; cases hi; exact hy hfe.symm
      have hf' : f ∈ dn.set t e' := List.mem_iff_getElem?.2 ⟨i, by rw [get_set_other hit]; exact hi⟩
      rw [← hfe, faOf_mem hn hf, faOf_mem hn' hf']
    · rw [faOf_none (dn := dn) (fun f hf e1 => h ⟨f, hf, e1⟩), faOf_none]
      intro f hf hfe
      rcases List.mem_or_eq_of_mem_set hf with h' | h'
      · exact h ⟨f, h', hfe⟩
      · exact hy (by rw [← hfe, h', he])

theorem faOf_append {dn : DN} {e : NE} (hno : ∀ f, f ∈ dn → f.ns ≠ e.ns) (hn : (nsOf dn).Nodup) (y : ByteArray) : faOf (dn ++ [e]) y = updM (faOf dn) e.ns (.map e.im) y := by
  unfold updM
  by_cases hy : y = e.ns
  · rw [if_pos hy, hy]
    unfold faOf
    rw [List.find?_append, List.find?_eq_none.2 (fun f hf => by simpa using hno f hf)]
    simp
  · rw [if_neg hy]
    unfold faOf
    rw [List.find?_append]
    cases h : dn.find? (fun f => decide (f.ns = y)) with
    | some f => rfl
    | none =>
      have : decide (e.ns = y) = false := by simpa using Ne.symm hy
      simp [this]

theorem nsOf_append_nodup {dn : DN} {e : NE} (hno : ∀ f, f ∈ dn → f.ns ≠ e.ns) (hn : (nsOf dn).Nodup) : (nsOf (dn ++ [e])).Nodup := by
  unfold nsOf
  rw [List.map_append]
  refine List.nodup_append.2 ⟨hn, by simp, fun a ha b hb e1 => ?_⟩
  simp at hb
  obtain ⟨q, hq, hqe⟩ := List.mem_map.1 ha
  exact hno q hq (by rw [hqe, e1, hb])
end Go.Proofs.Ybulkdlaa
