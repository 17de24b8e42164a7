import Derived.Test.YbulkdlaoFmtEq8
import Derived.Test.YbulkdlaoFmtBs
namespace Go.Proofs.YbulkdlaoFmt
set_option linter.unusedVariables false
set_option linter.unusedSimpArgs false
open Go.RowKit

/-! slices.Equal and slices.Clone at the entries. -/
def eqE (x y : En) : Bool := x.f == y.f && (((x.n : Int) == (y.n : Int)) && ((x.a : Int) == (y.a : Int)))
theorem eqE_refl (x : En) : eqE x x = true := by simp [eqE]

theorem neqE : NeqAt Ybaf.prog 34 (fun x => .agg (encE x).toArray) eqE := by
  refine ⟨fun x y w => ?_, fun op a b x y w => run_eqGuard_agg w op 34 a b _ _ (by kernel_rfl)⟩
  rw [run_neq_struct, run_equalIn_struct w 9999 34 _ _ (by kernel_rfl) (by kernel_rfl)]
  simp [Program.fieldsOf, Ybaf.underlying34, Op.eqFields, encE, part, go_sem, Ybaf.isAgg32, Ybaf.isAgg27, Ybaf.isAgg3, Ybaf.underlying32, Ybaf.underlying27, Ybaf.underlying3, eqE]
  by_cases h1 : x.f = y.f
  · by_cases h2 : (x.n : Int) = (y.n : Int)
    · by_cases h3 : (x.a : Int) = (y.a : Int)
      · simp [h1, h2, h3]
      · simp [h1, h2, h3]
    · simp [h1, h2]
  · simp [h1]

set_option maxRecDepth 20000 in
theorem equal_empty (a a' : Option Addr) (c c' : Nat) (w : World) : Calls Ybaf.prog 8 #[.slice a 0 c, .slice a' 0 c'] w fun r w' => r = .returned (.bool true) ∧ w' = w := by
  go_enter Ybaf.func8, Ybaf.ntmps8
  go_wp2_with fail
  refine wp_loop_rounds 1 ?_
  rw [rounds_succ]
  go_wp2_with fail
  go_ret
  exact ⟨rfl, rfl⟩

theorem allEq_refl : ∀ es : List En, Lib.allEq eqE es es = true
  | [] => rfl
  | e :: es => by simp [Lib.allEq, eqE_refl, allEq_refl es]

/-- A slice that holds the entries. -/
def Cp (w : World) (v : Value) (es : List En) : Prop := (es = [] ∧ ∃ a c, v = .slice a 0 c) ∨ ∃ g c, v = .slice (some ⟨g, 0, none⟩) es.length c ∧ RW w g es

theorem Cp.below {w w' : World} {v : Value} {es : List En} (h : Cp w v es) (hb : Below w.heap.size w w') : Cp w' v es := by
  rcases h with h | ⟨g, c, hv, hr⟩
  · exact .inl h
  · by_cases hl : 0 < es.length
    · exact .inr ⟨g, c, hv, hr.block (hb.block g (hr.lt hl))⟩
    · have h0 : es = [] := List.length_eq_zero_iff.1 (by omega)
      subst h0
      exact .inl ⟨rfl, _, _, hv⟩

theorem fl_len : ∀ l : List En, (l.flatMap encE).length = l.length * 3
  | [] => rfl
  | a :: l => by rw [List.flatMap_cons, List.length_append, encE_len, List.length_cons, fl_len l]; omega

theorem fl_inv : ∀ (l : List En) (j : Nat) (u : Value), (l.flatMap encE)[j]? = some u → ∃ e, l[j / 3]? = some e ∧ (encE e)[j % 3]? = some u := fun l j u h => by
  have hlen := fl_len l
  have hj := (List.getElem?_eq_some_iff.1 h).1
  have hd : j / 3 < l.length := by omega
  refine ⟨l[j / 3], List.getElem?_eq_getElem hd, ?_⟩
  rw [← fl_get l (j / 3) (j % 3) _ (List.getElem?_eq_getElem hd) (by omega), show j / 3 * 3 + j % 3 = j by omega]
  exact h

theorem RW.cells {w : World} {g : Nat} {es : List En} (h : RW w g es) {i r : Nat} {e : En} {u : Value} (he : es[i]? = some e) (hu : (encE e)[r]? = some u) : w.cell? ⟨g, i * 3 + r, none⟩ = some u := by
  match r, hu with
  | 0, hu => simp [encE] at hu; rw [← hu]; exact h.c0 i e he
  | 1, hu => simp [encE] at hu; rw [← hu]; exact h.c1 i e he
  | 2, hu => simp [encE] at hu; rw [← hu]; exact h.c2 i e he
  | r + 3, hu => simp [encE] at hu

theorem clone_any {w : World} {a : Option Addr} {g cap : Nat} {es : List En} (hs : a = none ∨ a = some ⟨g, 0, none⟩) (hf : 0 < es.length → a = some ⟨g, 0, none⟩) (hr : RW w g es) (hl : es.length ≤ 12) :
    Calls Ybaf.prog 6 #[.slice a es.length cap] w fun r w' => ∃ v, r = .returned v ∧ Cp w' v es ∧ Below w.heap.size w w' := by
  rcases hs with rfl | rfl
  · have h0 : es = [] := List.length_eq_zero_iff.1 (by rcases Nat.eq_zero_or_pos es.length with h | h; exact h; cases hf h)
    subst h0
    refine (AnyE.slices_Clone_nil Ybaf.lclone 0 cap w).mono ?_
    rintro r w' ⟨rfl, rfl⟩
    exact ⟨_, rfl, .inl ⟨rfl, _, _, rfl⟩, Below.refl _ _⟩
  · have hi := info34
    cases h : Ybaf.prog.info? 34 with
    | none => rw [h] at hi; cases hi
    | some i0 =>
      rw [h] at hi
      simp at hi
      obtain ⟨h1, h2, h3⟩ := hi
      refine (AnyE.slices_Clone Ybaf.lclone i0 _ 3 24 h h1 h2 h3 rfl (by omega) Ybaf.sizeOf34 g 0 es.length cap (es.flatMap encE) w ?_ ?_ ?_ ?_ ?_).mono ?_
      · exact fl_len es
      · unfold maxLen; omega
      · omega
      · intro j u hj
        obtain ⟨e, he, hu⟩ := fl_inv es j u hj
        have := hr.cells he hu
        rw [show j / 3 * 3 + j % 3 = j by omega] at this
        rw [Nat.zero_add]; exact this
      · intro u hu
        obtain ⟨e, _, he⟩ := List.mem_flatMap.1 hu
        simp [encE] at he
        rcases he with rfl | rfl | rfl <;> rfl
      · rintro r w' ⟨v, rfl, ho, _, hb⟩
        have ho' : OR w' v es := by
          obtain ⟨o1, o2⟩ := ho
          refine ⟨?_, ?_⟩
          · omega
          · rcases o2 with o2 | ⟨b, c, cur, q1, q2, q3⟩
            · exact .inl o2
            · exact .inr ⟨b, c, cur, q1, Nat.zero_le _, q3⟩
        rcases ho'.slice with ⟨e1, e2⟩ | ⟨g2, c2, e1, e2, _⟩
        · exact ⟨v, rfl, .inl ⟨e2, _, _, e1⟩, hb⟩
        · exact ⟨v, rfl, .inr ⟨g2, c2, e1, e2⟩, hb⟩

theorem equal_any {w : World} {a : Option Addr} {g cap : Nat} {es : List En} {v : Value} (hf : 0 < es.length → a = some ⟨g, 0, none⟩) (hr : RW w g es) (hl : es.length ≤ 12) (hv : Cp w v es) :
    Calls Ybaf.prog 8 #[.slice a es.length cap, v] w fun r w' => r = .returned (.bool true) ∧ Below w.heap.size w w' := by
  by_cases h0 : 0 < es.length
  · obtain rfl := hf h0
    rcases hv with ⟨h1, _⟩ | ⟨g2, c2, rfl, hr2⟩
    · rw [h1] at h0; cases h0
    · have hc : ∀ {b : Nat}, RW w b es → ∀ j, j < es.length → ∀ i u, (encE es[j]!)[i]? = some u → w.cell? ⟨b, 0 + j * 3 + i, none⟩ = some u := fun {b} hb j hj i u hu => by
        rw [Nat.zero_add]
        exact hb.cells (by rw [List.getElem?_eq_getElem hj, getElem!_pos es j hj]) hu
      refine (AnyQ.slices_Equal Ybaf.lequal 3 Ybaf.isAgg34 Ybaf.sizeOf34 encE encE_len eqE neqE g 0 es.length cap g2 0 es.length c2 es es w (Nat.le_refl _) (Nat.le_refl _) (by omega) (by omega) (hc hr) (hc hr2)).mono ?_
      rintro r w' ⟨rfl, q, rfl⟩
      rw [List.take_length, allEq_refl]
      exact ⟨rfl, below_drewN w q⟩
  · have h1 : es = [] := List.length_eq_zero_iff.1 (by omega)
    subst h1
    have : ∃ a2 c2, v = .slice a2 0 c2 := by
      rcases hv with ⟨_, h⟩ | ⟨g2, c2, h, _⟩
      · exact h
      · exact ⟨_, _, h⟩
    obtain ⟨a2, c2, rfl⟩ := this
    refine (equal_empty a a2 cap c2 w).mono ?_
    rintro r w' ⟨rfl, rfl⟩
    exact ⟨rfl, Below.refl _ _⟩
end Go.Proofs.YbulkdlaoFmt
