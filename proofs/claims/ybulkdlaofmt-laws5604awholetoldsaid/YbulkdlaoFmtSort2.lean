import Derived.Test.YbulkdlaoFmtSort
namespace Go.Proofs.YbulkdlaoFmt
set_option linter.unusedVariables false
set_option linter.unusedSimpArgs false
open Go.RowKit
open Go.Sort (grow SWO PermIn SortedIn HoldsK putRowK cell?_putRowK_other holdsK_putRowK get_flatK)

theorem holdsO {ids : ByteArray} [Inhabited (OE ids)] {w : World} {g : Nat} {l : List (OE ids)} (h : RW w g (l.map (·.1))) : HoldsK encO 3 w g 0 l.toArray := by
  intro j hj
  have hj' : j < l.toArray.size * 3 := by simpa using hj
  have hl : j / 3 < l.length := by simp at hj'; omega
  have he : (l.map (·.1))[j / 3]? = some (l[j / 3]).1 := by simp [hl]
  have hd : l.toArray[j / 3]! = l[j / 3] := by simp [hl]
  rw [get_flatK _ _ _ _ hj', hd, Nat.zero_add]
  refine ⟨?_, h.fz j (by simp; simp at hj'; exact hj')⟩
  have h3 : j % 3 = 0 ∨ j % 3 = 1 ∨ j % 3 = 2 := by omega
  rcases h3 with e | e | e
  · rw [e]
    have := h.c0 _ _ he
    rw [show j / 3 * 3 = j by omega] at this
    rw [this]; rfl
  · rw [e]
    have := h.c1 _ _ he
    rw [show j / 3 * 3 + 1 = j by omega] at this
    rw [this]; rfl
  · rw [e]
    have := h.c2 _ _ he
    rw [show j / 3 * 3 + 2 = j by omega] at this
    rw [this]; rfl

theorem ofHolds {ids : ByteArray} [Inhabited (OE ids)] {w : World} {g : Nat} {d : Array (OE ids)} (h : HoldsK encO 3 w g 0 d) : RW w g (d.toList.map (·.1)) := by
  have key : ∀ (i r : Nat) (e : En), (d.toList.map (·.1))[i]? = some e → r < 3 → w.cell? ⟨g, i * 3 + r, none⟩ = some ((encE e)[r]!) := fun i r e he hr => by
    have hi : i < d.size := by
      have := (List.getElem?_eq_some_iff.1 he).1
      simpa using this
    have hx : e = (d[i]).1 := by simpa [hi] using he.symm
    have h1 := (h (i * 3 + r) (by simp; omega)).1
    rw [get_flatK _ _ _ _ (by omega), show (i * 3 + r) / 3 = i by omega, show (i * 3 + r) % 3 = r by omega, Nat.zero_add] at h1
    rw [h1, hx]
    simp [hi, encO]
  refine ⟨fun i e he => key i 0 e he (by omega), fun i e he => key i 1 e he (by omega), fun i e he => key i 2 e he (by omega), fun o ho => ?_⟩
  have := (h o (by simpa using ho)).2
  rwa [Nat.zero_add] at this

theorem sort_any {w : World} {g cap I : Nat} {ids : ByteArray} {es : List En} (hr : RW w g es) (hl : 0 < es.length) (h12 : es.length ≤ 12) (ho : ∀ e, e ∈ es → Ok ids e) (hi : ids.size ≤ 1048576) (cI : w.cell? ⟨I, 0, none⟩ = some (.string ids)) (hIg : I ≠ g) :
    Calls Ybaf.prog 27 #[.slice (some ⟨g, 0, none⟩) es.length cap, .func (.func 28) #[] #[.pointer (some ⟨I, 0, none⟩)]] w fun r w' => r = .returned (.tuple #[]) ∧ ∃ es' : List En, es'.Perm es ∧ (∀ (i j : Nat) (x y : En), i < j → es'[i]? = some x → es'[j]? = some y → rk x.k ≤ rk y.k) ∧ RW w' g es' ∧ Kp (fun b => b = g) w w' := by
  have : Inhabited (OE ids) := ⟨⟨es[0], ho _ (List.getElem_mem hl)⟩⟩
  have hg := hr.lt hl
  have hIl := block_lt_of_cell cI
  obtain ⟨l, hlm⟩ : ∃ l : List (OE ids), l.map (·.1) = es := ⟨es.pmap (fun e he => ⟨e, he⟩) ho, by simp [List.map_pmap]⟩
  have hll : l.length = es.length := by rw [← hlm]; simp
  have hH : HoldsK encO 3 w g 0 l.toArray := holdsO (by rw [hlm]; exact hr)
  have eg : ∀ args w, (callFunc 28 args).run Ybaf.prog w = .ok (.enter 28 args) w := enters_of Ybaf.func28 (by kernel_rfl) rfl
  have hcmp : CmpLays Ybaf.prog 28 #[.pointer (some ⟨I, 0, none⟩)] encO 3 (cfO (ids := ids)) g 0 l.toArray.size w := fun m os dk hdk x y => by
    refine closure_any x.2 y.2 hi I _ ?_
    unfold sortWorldK
    rw [Go.Sort.cell?_grow _ _ _ (by simpa [putRowK, Go.Sort.ahead] using hIl), cell?_putRowK_other _ _ _ _ _ _ _ hIg]
    exact cI
  have hlen : ∀ (n : Nat) (W : World), n ≤ 12 → Calls Ybaf.prog 45 #[.int .u64 n] W fun e w' => (∃ k : Int, e = .returned (.int .i64 k)) ∧ w' = W := fun n W hn => (Any.bits_Len Ybaf.lbits n W (by omega) (by omega)).mono fun _ _ ⟨he, hw⟩ => ⟨⟨_, he⟩, hw⟩
  have hc := AnyQ.slices_SortFunc_small_sorted Ybaf.lsort 3 Ybaf.isAgg34 Ybaf.sizeOf34 encO (fun _ => rfl) (fun x v hv => by simp [encO, encE] at hv; rcases hv with rfl | rfl | rfl <;> rfl) (cfO (ids := ids)) 28 #[.pointer (some ⟨I, 0, none⟩)] swoO g 0 cap l.toArray w eg hcmp hH hg (by simp; omega) hlen
  change Calls Ybaf.prog 27 _ _ _ at hc
  have hsz : l.toArray.size = es.length := by simp [hll]
  rw [hsz] at hc
  refine hc.mono ?_
  rintro r w' ⟨rfl, d', n, os, hp, hs, rfl⟩
  have hds : d'.size = es.length := by rw [hp.1, hsz]
  refine ⟨rfl, d'.toList.map (·.1), ?_, ?_, ?_, ?_⟩
  · have h1 := hp.2.2
    rw [← hlm]
    have e1 : d'.extract 0 es.length = d' := by rw [← hds]; simp
    have e2 : l.toArray.extract 0 es.length = l.toArray := by rw [← hsz]; simp
    rw [e1, e2] at h1
    exact h1.map _
  · intro i j x y hij hx hy
    have hi' : i < d'.size := by have := (List.getElem?_eq_some_iff.1 hx).1; simpa using this
    have hj' : j < d'.size := by have := (List.getElem?_eq_some_iff.1 hy).1; simpa using this
    have h1 := hs i j (Nat.zero_le _) hij (by omega)
    rw [ltO] at h1
    have ex : d'[i]!.1 = x := by simpa [hi'] using hx
    have ey : d'[j]!.1 = y := by simpa [hj'] using hy
    rw [ex, ey] at h1
    simpa using h1
  · have h1 : HoldsK encO 3 (putRowK encO 3 (Go.Sort.ahead w n) g 0 d') g 0 d' := holdsK_putRowK encO 3 (Go.Sort.ahead w n) g 0 l.toArray d' hH hp.1
    refine (ofHolds h1).block ?_
    unfold sortWorldK
    rw [Go.Sort.heap_grow_old _ _ (by simpa [putRowK, Go.Sort.ahead] using hg)]
  · refine ⟨rfl, rfl, rfl, by simp [sortWorldK, putRowK, Go.Sort.ahead], fun b hb hne => ?_⟩
    unfold sortWorldK
    rw [Go.Sort.heap_grow_old _ _ (by simpa [putRowK, Go.Sort.ahead] using hb)]
    simp only [putRowK, Go.Sort.putRow, Go.Sort.mapBlock, Array.getElem?_modify, if_neg (show ¬ g = b from fun e => hne e.symm), Go.Sort.ahead]
end Go.Proofs.YbulkdlaoFmt
