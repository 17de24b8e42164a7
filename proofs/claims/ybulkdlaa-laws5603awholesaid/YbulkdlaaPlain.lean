import Derived.Test.YbulkdlaaUnset
namespace Go.Proofs.Ybulkdlaa
set_option linter.unusedVariables false
set_option linter.unusedSimpArgs false
open Go.RowKit

/-- A held record. -/
def hv (x : RK) (r : Int) : Value := .agg #[.string x.1, .string x.2.1, .string x.2.2, .slice none 0 0, .int .i64 0, .slice none 0 0, .int .u64 0, .int .u64 0, .int .i64 0, .pointer none, .int .u8 0, .slice none 0 0, .int .i64 r]

abbrev DM := List (RK × Int)
def encH (p : RK × Int) : List Value := [.string p.1.1, .string p.1.2.1, .string p.1.2.2, .int .i64 p.2]
def encK (x : RK) : List Value := [.string x.1, .string x.2.1, .string x.2.2]
theorem encH_len (p : RK × Int) : (encH p).length = 4 := rfl
theorem encK_len (x : RK) : (encK x).length = 3 := rfl

def fmOf (dm : DM) : RK → Option Value := fun y => (dm.find? (fun p => decide (p.1 = y))).map (fun p => hv p.1 p.2)

/-- One more record is held. -/
def DmStep (dm : DM) (x : RK) (r : Int) (dm' : DM) : Prop :=
  (∃ j p, dm[j]? = some p ∧ p.1 = x ∧ dm' = dm.set j (x, r)) ∨ ((∀ p, p ∈ dm → p.1 ≠ x) ∧ dm' = dm ++ [(x, r)])

def keysOf (dm : DM) : List RK := dm.map (·.1)

theorem fmOf_none {dm : DM} {y : RK} (h : ∀ p, p ∈ dm → p.1 ≠ y) : fmOf dm y = none := by
  unfold fmOf
  rw [List.find?_eq_none.2 (fun p hp => by simpa using h p hp)]; rfl

theorem fmOf_mem : ∀ {dm : DM} {p : RK × Int}, (keysOf dm).Nodup → p ∈ dm → fmOf dm p.1 = some (hv p.1 p.2)
  | [], p, _, h => by simp at h
  | a :: r, p, hn, h => by
    simp only [keysOf, List.map_cons, List.nodup_cons] at hn
    rcases List.mem_cons.1 h with rfl | h
    · simp [fmOf]
    · have hne : a.1 ≠ p.1 := fun e => hn.1 (by rw [e]; exact List.mem_map_of_mem h)
      have := fmOf_mem (dm := r) hn.2 h
      unfold fmOf at this ⊢
      rw [List.find?_cons_of_neg (by simpa using hne)]; exact this

theorem fmOf_isSome {dm : DM} {y : RK} : (fmOf dm y).isSome = true ↔ y ∈ keysOf dm := by
  unfold fmOf keysOf
  rw [Option.isSome_map, List.find?_isSome, List.mem_map]
  constructor
  · rintro ⟨p, hp, e⟩
    exact ⟨p, hp, by simpa using e⟩
  · rintro ⟨p, hp, e⟩
    exact ⟨p, hp, by simpa using e⟩

theorem set_keys {dm : DM} {j : Nat} {p : RK × Int} {x : RK} {r : Int} (hj : dm[j]? = some p) (hp : p.1 = x) : keysOf (dm.set j (x, r)) = keysOf dm := by
  unfold keysOf
  rw [List.map_set]
  apply List.ext_getElem?
  intro i
  rw [List.getElem?_set]
  by_cases e : j = i
  · subst e
    have hl := (List.getElem?_eq_some_iff.1 hj).1
    have hje : dm[j].1 = x := by rw [List.getElem?_eq_getElem hl] at hj; cases hj; exact hp
    simp [hl, hje]
  · simp [e]

theorem DmStep.nodup {dm dm' : DM} {x : RK} {r : Int} (h : DmStep dm x r dm') (hn : (keysOf dm).Nodup) : (keysOf dm').Nodup := by
  rcases h with ⟨j, p, hj, hp, rfl⟩ | ⟨hx, rfl⟩
  · rw [set_keys hj hp]; exact hn
  · unfold keysOf
    rw [List.map_append]
    refine List.nodup_append.2 ⟨hn, by simp, fun a ha b hb e => ?_⟩
    simp at hb
    obtain ⟨q, hq, hqe⟩ := List.mem_map.1 ha
    exact hx q hq (by rw [hqe, e, hb])

theorem DmStep.length {dm dm' : DM} {x : RK} {r : Int} (h : DmStep dm x r dm') : dm'.length = if (fmOf dm x).isSome then dm.length else dm.length + 1 := by
  rcases h with ⟨j, p, hj, hp, rfl⟩ | ⟨hx, rfl⟩
  · have : x ∈ keysOf dm := by rw [← hp]; exact List.mem_map_of_mem (List.mem_of_getElem? hj)
    rw [if_pos (fmOf_isSome.2 this), List.length_set]
  · have : ¬ x ∈ keysOf dm := fun h => by
      obtain ⟨q, hq, e⟩ := List.mem_map.1 h
      exact hx q hq e
    rw [if_neg (fun h => this (fmOf_isSome.1 h))]; simp

theorem DmStep.fm {dm dm' : DM} {x : RK} {r : Int} (h : DmStep dm x r dm') (hn : (keysOf dm).Nodup) (y : RK) : fmOf dm' y = updM (fmOf dm) x (hv x r) y := by
  have hn' := h.nodup hn
  unfold updM
  by_cases e : y = x
  · rw [if_pos e]
    have hm : (x, r) ∈ dm' := by
      rcases h with ⟨j, p, hj, hp, rfl⟩ | ⟨hx, rfl⟩
      · exact List.mem_iff_getElem?.2 ⟨j, by rw [List.getElem?_set]; simp [(List.getElem?_eq_some_iff.1 hj).1]⟩
      · simp
    rw [e]; exact fmOf_mem hn' hm
  · rw [if_neg e]
    by_cases hy : ∃ p, p ∈ dm ∧ p.1 = y
    · obtain ⟨p, hp, hpe⟩ := hy
      have hp' : p ∈ dm' := by
        rcases h with ⟨j, q, hj, hq, rfl⟩ | ⟨hx, rfl⟩
        · obtain ⟨i, hi⟩ := List.mem_iff_getElem?.1 hp
          refine List.mem_iff_getElem?.2 ⟨i, ?_⟩
          rw [List.getElem?_set, if_neg, hi]
          intro e'
          subst e'
          rw [hj] at hi
          cases hi
          exact e (by rw [← hpe, hq])
        · exact List.mem_append.2 (.inl hp)
      rw [← hpe, fmOf_mem hn' hp', fmOf_mem hn hp]
    · rw [fmOf_none (dm := dm) (fun p hp e' => hy ⟨p, hp, e'⟩), fmOf_none]
      intro p hp hpe
      rcases h with ⟨j, q, hj, hq, rfl⟩ | ⟨hx, rfl⟩
      · rcases List.mem_or_eq_of_mem_set hp with h' | h'
        · exact hy ⟨p, h', hpe⟩
        · exact e (by rw [← hpe, h'])
      · rcases List.mem_append.1 hp with h' | h'
        · exact hy ⟨p, h', hpe⟩
        · simp at h'; exact e (by rw [← hpe, h'])

/-- How many remain. -/
def wantM (dm : DM) (k : RK) : Nat := (dm.filter (fun p => decide (p.1 ≠ k))).length

theorem wantM_eq : ∀ {dm : DM} {k : RK}, (keysOf dm).Nodup → wantM dm k = if (fmOf dm k).isSome then dm.length - 1 else dm.length
  | [], k, _ => by simp [wantM, fmOf]
  | a :: r, k, hn => by
    have hn2 : (keysOf r).Nodup := by simp only [keysOf, List.map_cons, List.nodup_cons] at hn; exact hn.2
    have hn1 : a.1 ∉ keysOf r := by simp only [keysOf, List.map_cons, List.nodup_cons] at hn; exact hn.1
    have ih := wantM_eq (dm := r) (k := k) hn2
    unfold wantM at ih ⊢
    by_cases e : a.1 = k
    · have hk : k ∉ keysOf r := by rw [← e]; exact hn1
      have hk2 : k ∈ keysOf (a :: r) := by simp only [keysOf, List.map_cons, e]; exact List.mem_cons_self
      rw [List.filter_cons_of_neg (by simp [e]), ih, if_neg (fun h => hk (fmOf_isSome.1 h)), if_pos (fmOf_isSome.2 hk2)]
      simp
    · rw [List.filter_cons_of_pos (by simpa using e), List.length_cons, ih]
      by_cases hk : k ∈ keysOf r
      · have hl : 0 < r.length := by
          obtain ⟨q, hq, _⟩ := List.mem_map.1 hk
          exact List.length_pos_of_mem hq
        have hk2 : k ∈ keysOf (a :: r) := by simp only [keysOf, List.map_cons]; exact List.mem_cons_of_mem _ hk
        rw [if_pos (fmOf_isSome.2 hk), if_pos (fmOf_isSome.2 hk2)]
        simp; omega
      · have hk2 : k ∉ keysOf (a :: r) := by
          simp only [keysOf, List.map_cons, List.mem_cons]
          rintro (h | h)
          · exact e h.symm
          · exact hk h
        rw [if_neg (fun h => hk (fmOf_isSome.1 h)), if_neg (fun h => hk2 (fmOf_isSome.1 h))]
        simp
end Go.Proofs.Ybulkdlaa
