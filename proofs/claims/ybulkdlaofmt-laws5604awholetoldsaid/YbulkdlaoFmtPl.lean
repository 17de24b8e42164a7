import Derived.Test.YbulkdlaoFmtSeek
namespace Go.Proofs.YbulkdlaoFmt
set_option linter.unusedVariables false
set_option linter.unusedSimpArgs false
open Go.RowKit

/-! The plain law of the merge: two sorted rows of entries against two tables of counters. -/
structure Two (es es' : List En) (v v' : Nat → Nat) : Prop where
  s : Srt es
  s' : Srt es'
  k : ∀ e, e ∈ es → e.k < 12
  k' : ∀ e, e ∈ es' → e.k < 12
  m : ∀ e, e ∈ es → e.n ≠ 0 ∧ v e.k = e.n
  m' : ∀ e, e ∈ es' → e.n ≠ 0 ∧ v' e.k = e.n
  z : ∀ k, k < 12 → v k ≠ 0 → ∃ e, e ∈ es ∧ e.k = k
  z' : ∀ k, k < 12 → v' k ≠ 0 → ∃ e, e ∈ es' ∧ e.k = k

theorem Two.swap {es es' : List En} {v v' : Nat → Nat} (T : Two es es' v v') : Two es' es v' v := ⟨T.s', T.s, T.k', T.k, T.m', T.m, T.z', T.z⟩

def Bh (v v' : Nat → Nat) : Prop := ∃ k, k < 12 ∧ v k < v' k
def Dn (v v' : Nat → Nat) (b a : Bool) (k : Nat) : Prop := (v k < v' k → b = true) ∧ (v' k < v k → a = true)
def Fin (v v' : Nat → Nat) (b a : Bool) : Prop := (b = true ↔ Bh v v') ∧ (a = true ↔ Bh v' v)

theorem Dn.swap {v v' : Nat → Nat} {b a : Bool} {k : Nat} (h : Dn v v' b a k) : Dn v' v a b k := ⟨h.2, h.1⟩
theorem Dn.up {v v' : Nat → Nat} {b a b2 a2 : Bool} {k : Nat} (h : Dn v v' b a k) (hb : b = true → b2 = true) (ha : a = true → a2 = true) : Dn v v' b2 a2 k := ⟨fun x => hb (h.1 x), fun x => ha (h.2 x)⟩

structure Mg (es es' : List En) (v v' : Nat → Nat) (i j : Nat) (b a : Bool) : Prop where
  il : i ≤ es.length
  jl : j ≤ es'.length
  sb : b = true → Bh v v'
  sa : a = true → Bh v' v
  d : ∀ (t : Nat) (e : En), t < i → es[t]? = some e → Dn v v' b a e.k
  d' : ∀ (t : Nat) (e : En), t < j → es'[t]? = some e → Dn v v' b a e.k
  p : ∀ (t s : Nat) (x y : En), t < i → j ≤ s → es[t]? = some x → es'[s]? = some y → rk x.k < rk y.k
  p' : ∀ (t s : Nat) (x y : En), i ≤ t → s < j → es[t]? = some x → es'[s]? = some y → rk y.k < rk x.k

theorem Mg.start {es es' : List En} {v v' : Nat → Nat} : Mg es es' v v' 0 0 false false :=
  ⟨Nat.zero_le _, Nat.zero_le _, (fun h => by cases h), (fun h => by cases h), fun t e h => by omega, fun t e h => by omega, fun t s x y h => by omega, fun t s x y h1 h => by omega⟩

theorem Mg.swap {es es' : List En} {v v' : Nat → Nat} {i j : Nat} {b a : Bool} (M : Mg es es' v v' i j b a) : Mg es' es v' v j i a b :=
  ⟨M.jl, M.il, M.sa, M.sb, fun t e h1 h2 => (M.d' t e h1 h2).swap, fun t e h1 h2 => (M.d t e h1 h2).swap, fun t s x y h1 h2 h3 h4 => M.p' s t y x h2 h1 h4 h3, fun t s x y h1 h2 h3 h4 => M.p s t y x h2 h1 h4 h3⟩

theorem Srt.le {es : List En} (h : Srt es) {i j : Nat} {x y : En} (hij : i ≤ j) (hx : es[i]? = some x) (hy : es[j]? = some y) : rk x.k ≤ rk y.k := by
  rcases Nat.lt_or_ge i j with h1 | h1
  · exact Nat.le_of_lt (h i j x y h1 hx hy)
  · have : i = j := by omega
    subst this
    rw [hx] at hy; cases hy; exact Nat.le_refl _

theorem Mg.eq {es es' : List En} {v v' : Nat → Nat} {i j : Nat} {b a : Bool} (T : Two es es' v v') (M : Mg es es' v v' i j b a) {x y : En} (hx : es[i]? = some x) (hy : es'[j]? = some y) (he : x.k = y.k) :
    Mg es es' v v' (i + 1) (j + 1) (b || decide (x.n < y.n)) (a || decide (y.n < x.n)) := by
  have hil := (List.getElem?_eq_some_iff.1 hx).1
  have hjl := (List.getElem?_eq_some_iff.1 hy).1
  have mx := T.m x (List.mem_of_getElem? hx)
  have my := T.m' y (List.mem_of_getElem? hy)
  have kx := T.k x (List.mem_of_getElem? hx)
  have upb : b = true → (b || decide (x.n < y.n)) = true := fun h => by rw [h]; rfl
  have upa : a = true → (a || decide (y.n < x.n)) = true := fun h => by rw [h]; rfl
  have hd : Dn v v' (b || decide (x.n < y.n)) (a || decide (y.n < x.n)) x.k := ⟨fun h => by
    rw [mx.2, he, my.2] at h; simp [h], fun h => by rw [mx.2, he, my.2] at h; simp [h]⟩
  refine ⟨by omega, by omega, fun h => ?_, fun h => ?_, fun t e h1 h2 => ?_, fun t e h1 h2 => ?_, fun t s x' y' h1 h2 h3 h4 => ?_, fun t s x' y' h1 h2 h3 h4 => ?_⟩
  · rcases Bool.or_eq_true _ _ ▸ h with h1 | h1
    · exact M.sb h1
    · exact ⟨x.k, kx, by rw [mx.2, he, my.2]; simpa using h1⟩
  · rcases Bool.or_eq_true _ _ ▸ h with h1 | h1
    · exact M.sa h1
    · exact ⟨x.k, kx, by rw [mx.2, he, my.2]; simpa using h1⟩
  · rcases Nat.lt_or_ge t i with h3 | h3
    · exact (M.d t e h3 h2).up upb upa
    · have : t = i := by omega
      subst this
      rw [hx] at h2; cases h2; exact hd
  · rcases Nat.lt_or_ge t j with h3 | h3
    · exact (M.d' t e h3 h2).up upb upa
    · have : t = j := by omega
      subst this
      rw [hy] at h2; cases h2; rw [← he]; exact hd
  · rcases Nat.lt_or_ge t i with h5 | h5
    · exact M.p t s x' y' h5 (by omega) h3 h4
    · have : t = i := by omega
      subst this
      rw [hx] at h3; cases h3
      rw [he]; exact T.s' j s y y' (by omega) hy h4
  · rcases Nat.lt_or_ge s j with h5 | h5
    · exact M.p' t s x' y' (by omega) h5 h3 h4
    · have : s = j := by omega
      subst this
      rw [hy] at h4; cases h4
      rw [← he]; exact T.s i t x x' (by omega) hx h3

/-- Entries of the first clock below the second's next one are in the first alone. -/
theorem Mg.pass {es es' : List En} {v v' : Nat → Nat} {i j q : Nat} {b a : Bool} (T : Two es es' v v') (M : Mg es es' v v' i j b a) (hiq : i < q) (hq : q ≤ es.length) {y : En} (hy : es'[j]? = some y)
    (hall : ∀ (t : Nat) (e : En), i ≤ t → t < q → es[t]? = some e → rk e.k < rk y.k) : Mg es es' v v' q j b true := by
  have hno : ∀ (t : Nat) (e : En), i ≤ t → t < q → es[t]? = some e → e.k < 12 ∧ v' e.k = 0 ∧ v e.k ≠ 0 := fun t e h1 h2 h3 => by
    have hm := List.mem_of_getElem? h3
    refine ⟨T.k e hm, ?_, by have := T.m e hm; omega⟩
    by_cases h0 : v' e.k = 0
    · exact h0
    · obtain ⟨f, hf, hfk⟩ := T.z' e.k (T.k e hm) h0
      obtain ⟨s, hs⟩ := List.mem_iff_getElem?.1 hf
      have hlt := hall t e h1 h2 h3
      rcases Nat.lt_or_ge s j with h5 | h5
      · have := M.p' t s e f h1 h5 h3 hs
        rw [hfk] at this; omega
      · have := T.s'.le h5 hy hs
        rw [hfk] at this; omega
  refine ⟨hq, M.jl, M.sb, fun _ => ?_, fun t e h1 h2 => ?_, fun t e h1 h2 => (M.d' t e h1 h2).up id (fun _ => rfl), fun t s x' y' h1 h2 h3 h4 => ?_, fun t s x' y' h1 h2 h3 h4 => M.p' t s x' y' (by omega) h2 h3 h4⟩
  · obtain ⟨e, he⟩ : ∃ e, es[i]? = some e := ⟨_, List.getElem?_eq_getElem (by omega)⟩
    have := hno i e (Nat.le_refl _) hiq he
    exact ⟨e.k, this.1, by omega⟩
  · rcases Nat.lt_or_ge t i with h3 | h3
    · exact (M.d t e h3 h2).up id (fun _ => rfl)
    · exact ⟨fun h => by have := hno t e h3 h1 h2; omega, fun _ => rfl⟩
  · rcases Nat.lt_or_ge t i with h5 | h5
    · exact M.p t s x' y' h5 h2 h3 h4
    · exact Nat.lt_of_lt_of_le (hall t x' h5 h1 h3) (T.s'.le h2 hy h4)

theorem Mg.passR {es es' : List En} {v v' : Nat → Nat} {i j q : Nat} {b a : Bool} (T : Two es es' v v') (M : Mg es es' v v' i j b a) (hjq : j < q) (hq : q ≤ es'.length) {x : En} (hx : es[i]? = some x)
    (hall : ∀ (t : Nat) (e : En), j ≤ t → t < q → es'[t]? = some e → rk e.k < rk x.k) : Mg es es' v v' i q true a :=
  (Mg.pass T.swap M.swap hjq hq hx hall).swap

/-- The second's next entry at the end of the first: it is in the second alone. -/
theorem Mg.passE {es es' : List En} {v v' : Nat → Nat} {j : Nat} {b a : Bool} (T : Two es es' v v') (M : Mg es es' v v' es.length j b a) (hj : j < es'.length) : Mg es es' v v' es.length (j + 1) true a := by
  obtain ⟨y, hy⟩ : ∃ y, es'[j]? = some y := ⟨_, List.getElem?_eq_getElem hj⟩
  have hm := List.mem_of_getElem? hy
  have h0 : v y.k = 0 := by
    by_cases h0 : v y.k = 0
    · exact h0
    · obtain ⟨f, hf, hfk⟩ := T.z y.k (T.k' y hm) h0
      obtain ⟨s, hs⟩ := List.mem_iff_getElem?.1 hf
      have := M.p s j f y (List.getElem?_eq_some_iff.1 hs).1 (Nat.le_refl _) hs hy
      rw [hfk] at this; omega
  have hmy := T.m' y hm
  refine ⟨M.il, hj, fun _ => ⟨y.k, T.k' y hm, by omega⟩, M.sa, fun t e h1 h2 => (M.d t e h1 h2).up (fun _ => rfl) id, fun t e h1 h2 => ?_, fun t s x' y' h1 h2 h3 h4 => M.p t s x' y' h1 (by omega) h3 h4, fun t s x' y' h1 h2 h3 h4 => ?_⟩
  · rcases Nat.lt_or_ge t j with h3 | h3
    · exact (M.d' t e h3 h2).up (fun _ => rfl) id
    · have : t = j := by omega
      subst this
      rw [hy] at h2; cases h2; exact ⟨fun _ => rfl, fun h => by omega⟩
  · have := (List.getElem?_eq_some_iff.1 h3).1
    omega

theorem Mg.passER {es es' : List En} {v v' : Nat → Nat} {i : Nat} {b a : Bool} (T : Two es es' v v') (M : Mg es es' v v' i es'.length b a) (hi : i < es.length) : Mg es es' v v' (i + 1) es'.length b true :=
  (Mg.passE T.swap M.swap hi).swap

theorem Mg.finL {es es' : List En} {v v' : Nat → Nat} {j : Nat} {b a : Bool} (T : Two es es' v v') (M : Mg es es' v v' es.length j b a) : Fin v v' (b || decide (j < es'.length)) a := by
  have ha : a = true ↔ Bh v' v := ⟨M.sa, fun ⟨k, hk, hlt⟩ => by
    obtain ⟨f, hf, hfk⟩ := T.z k hk (by omega)
    obtain ⟨s, hs⟩ := List.mem_iff_getElem?.1 hf
    exact (M.d s f (List.getElem?_eq_some_iff.1 hs).1 hs).2 (by rw [hfk]; exact hlt)⟩
  by_cases hj : j < es'.length
  · have M2 := M.passE T hj
    refine ⟨?_, ha⟩
    rw [decide_eq_true hj, Bool.or_true]
    exact ⟨fun _ => M2.sb rfl, fun _ => rfl⟩
  · rw [decide_eq_false hj, Bool.or_false]
    refine ⟨⟨M.sb, fun ⟨k, hk, hlt⟩ => ?_⟩, ha⟩
    obtain ⟨f, hf, hfk⟩ := T.z' k hk (by omega)
    obtain ⟨s, hs⟩ := List.mem_iff_getElem?.1 hf
    have := (List.getElem?_eq_some_iff.1 hs).1
    exact (M.d' s f (by omega) hs).1 (by rw [hfk]; exact hlt)

theorem Fin.swap {v v' : Nat → Nat} {b a : Bool} (h : Fin v v' b a) : Fin v' v a b := ⟨h.2, h.1⟩

theorem Mg.fin {es es' : List En} {v v' : Nat → Nat} {i j : Nat} {b a : Bool} (T : Two es es' v v') (M : Mg es es' v v' i j b a) (h : i = es.length ∨ j = es'.length ∨ (b = true ∧ a = true)) :
    Fin v v' (b || decide (j < es'.length)) (a || decide (i < es.length)) := by
  rcases h with rfl | rfl | ⟨rfl, rfl⟩
  · simpa using M.finL T
  · simpa using ((Mg.finL T.swap M.swap).swap)
  · exact ⟨⟨fun _ => M.sb rfl, fun _ => rfl⟩, ⟨fun _ => M.sa rfl, fun _ => rfl⟩⟩

/-! The two bits of what is found. -/
def fd (b a : Bool) : Int := match b, a with
  | false, false => 0 | true, false => 1 | false, true => 2 | true, true => 3
theorem fd_a (b a : Bool) : bits BinOp.or IntKind.u8 (fd b a) 2 = fd b true := by cases b <;> cases a <;> rfl
theorem fd_b (b a : Bool) : bits BinOp.or IntKind.u8 (fd b a) 1 = fd true a := by cases b <;> cases a <;> rfl
theorem fd_c (b a : Bool) (x y : Nat) : bits BinOp.or IntKind.u8 (fd b a) (cord x y) = fd (b || decide (x < y)) (a || decide (y < x)) := by
  unfold cord
  by_cases h1 : x < y
  · have h2 : ¬ y < x := by omega
    rw [if_pos h1, decide_eq_true h1, decide_eq_false h2]
    cases b <;> cases a <;> rfl
  · rw [if_neg h1, decide_eq_false h1]
    by_cases h2 : y < x
    · rw [if_pos h2, decide_eq_true h2]
      cases b <;> cases a <;> rfl
    · rw [if_neg h2, decide_eq_false h2]
      cases b <;> cases a <;> rfl
theorem fd_e (b a : Bool) : (bits BinOp.and IntKind.u8 (fd b a) 3 != 3) = !(b && a) := by cases b <;> cases a <;> rfl
theorem fd_0 : (0 : Int) = fd false false := rfl
theorem fd_x (x y : Nat) : cord x y = fd (decide (x < y)) (decide (y < x)) := by
  unfold cord
  by_cases h1 : x < y
  · have h2 : ¬ y < x := by omega
    rw [if_pos h1, decide_eq_true h1, decide_eq_false h2]; rfl
  · rw [if_neg h1, decide_eq_false h1]
    by_cases h2 : y < x
    · rw [if_pos h2, decide_eq_true h2]; rfl
    · rw [if_neg h2, decide_eq_false h2]; rfl
theorem pv_next {es es' : List En} {i j : Nat} {x y : En} (hx : es[i]? = some x) (hy : es'[j]? = some y) (he : x.k = y.k) : pvOf es (i + 1) = pvOf es' (j + 1) := by
  unfold pvOf
  simp [hx, hy, he]
end Go.Proofs.YbulkdlaoFmt
