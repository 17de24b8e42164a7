import Derived.Test.YbulkdkyyOps
namespace Go.Proofs.Ybulkdkyy
set_option linter.unusedVariables false
set_option linter.unusedSimpArgs false
open Go.RowKit

theorem swapL_same (q : List Nat) (i : Nat) (hi : i < q.length) : swapL q i i = q := by
  apply List.ext_getElem
  · simp [swapL]
  · intro p h1 h2
    have := swapL_getD q i i p hi hi h2
    rw [getD_eq_getElem _ _ h1] at this
    rw [this]
    by_cases e : p = i
    · subst e; rw [if_pos rfl, getD_eq_getElem _ _ h2]
    · rw [if_neg e, if_neg e, getD_eq_getElem _ _ h2]

section
variable {w : World} {g cap : Nat} {sb : Nat → Nat} {d : Nat → Int} {k : Nat} {q : List Nat}

theorem HW.swap_same (h : HW w g cap sb d k q) {i : Nat} (hi : i < q.length) :
    HW ((((w.setCell ⟨g, i, none⟩ (.pointer (some ⟨sb (q.getD i 0), 0, none⟩))).setCell ⟨g, i, none⟩ (.pointer (some ⟨sb (q.getD i 0), 0, none⟩))).setCell ⟨sb (q.getD i 0), 21, none⟩ (.int .i64 i)).setCell ⟨sb (q.getD i 0), 21, none⟩ (.int .i64 i)).drew.drew g cap sb d k q := by
  have mi := h.ids _ (getD_mem hi)
  have gi := h.sb_ne mi
  refine ⟨?_, h.room, h.capm, ?_, ?_, h.ids, h.nodup, h.inj⟩
  · obtain ⟨cur, hb, hs, hc⟩ := h.row
    refine ⟨(cur.setIfInBounds i (.pointer (some ⟨sb (q.getD i 0), 0, none⟩))).setIfInBounds i (.pointer (some ⟨sb (q.getD i 0), 0, none⟩)), ?_, by simpa using hs, fun p hp => ?_⟩
    · show (World.setCell _ _ _).heap[g]? = _
      rw [RowKit.Below.heap_setCell _ _ _ _ (Ne.symm gi), RowKit.Below.heap_setCell _ _ _ _ (Ne.symm gi)]
      simp [World.setCell, Array.getElem?_modify, hb]
    · have r := h.room
      rw [Array.getElem?_setIfInBounds, Array.getElem?_setIfInBounds]
      by_cases e2 : i = p
      · subst e2
        simp; omega
      · simp only [e2, if_false]
        exact hc p hp
  · intro p hp
    refine Sess.drew (Sess.drew ?_)
    by_cases e1 : p = i
    · subst e1
      exact ((((h.inq p hp).setOther gi _).setOther gi _).setIndex _).setIndex _
    · have mp := h.ids _ (getD_mem hp)
      have gp := h.sb_ne mp
      have n1 : sb (q.getD p 0) ≠ sb (q.getD i 0) := fun e => by
        have := h.inj _ _ mp mi e
        rw [getD_eq_getElem _ _ hp, getD_eq_getElem _ _ hi] at this
        exact e1 (nodup_inj h.nodup hp hi this)
      exact ((((h.inq p hp).setOther gp _).setOther gp _).setOther n1 _).setOther n1 _
  · intro p hp hn'
    have gp := h.sb_ne hp
    have n1 : sb p ≠ sb (q.getD i 0) := fun e => hn' (h.inj _ _ hp mi e ▸ getD_mem hi)
    exact Sess.drew (Sess.drew (((((h.out p hp hn').setOther gp _).setOther gp _).setOther n1 _).setOther n1 _))

theorem swap_any (h : HW w g cap sb d k q) (i j : Nat) (hi : i < q.length) (hj : j < q.length) (c : Nat) :
    Calls Yba.prog 87 #[.slice (some ⟨g, 0, none⟩) q.length c, .int .i64 i, .int .i64 j] w fun e w' => e = .returned (.tuple #[]) ∧ HW w' g cap sb d k (swapL q i j) ∧ Kp (Tq g sb k) w w' := by
  have mi := h.ids _ (getD_mem hi)
  have mj := h.ids _ (getD_mem hj)
  by_cases hij : i = j
  · subst hij
    refine (swap_same_low g q.length c i _ w (h.sb_ne mi) (by omega) (h.cell hi) (h.frozen i) _ (h.inq i hi).index ((h.inq i hi).frozen _)).mono ?_
    rintro e w' ⟨rfl, rfl⟩
    refine ⟨rfl, by rw [swapL_same _ _ hi]; exact h.swap_same hi, ?_⟩
    exact (((((Kp.refl _ w).setCell (.inl (.inl rfl)) _).setCell (.inl (.inl rfl)) _).setCell (.inl (.inr ⟨_, mi, rfl⟩)) _).setCell (.inl (.inr ⟨_, mi, rfl⟩)) _).drew.drew
  · have hne : q.getD i 0 ≠ q.getD j 0 := by
      rw [getD_eq_getElem _ _ hi, getD_eq_getElem _ _ hj]
      intro e; exact hij (nodup_inj h.nodup hi hj e)
    have hsb : sb (q.getD i 0) ≠ sb (q.getD j 0) := fun e => hne (h.inj _ _ mi mj e)
    refine (swap_low g q.length c i j _ _ _ _ w hij hsb (h.sb_ne mi) (h.sb_ne mj) (by omega) (by omega) (h.cell hi) (h.cell hj) (h.frozen i) (h.frozen j) (h.inq i hi).index (h.inq j hj).index ((h.inq i hi).frozen _) ((h.inq j hj).frozen _)).mono ?_
    rintro e w' ⟨rfl, rfl⟩
    refine ⟨rfl, h.swap hi hj hij, ?_⟩
    exact (((((Kp.refl _ w).setCell (.inl (.inl rfl)) _).setCell (.inl (.inl rfl)) _).setCell (.inl (.inr ⟨_, mj, rfl⟩)) _).setCell (.inl (.inr ⟨_, mi, rfl⟩)) _).drew.drew
end

/-- The keys by place. -/
def keyF (d : Nat → Int) (q : List Nat) : Nat → Int := fun p => d (q.getD p 0)

theorem keyF_swap (d : Nat → Int) (q : List Nat) (i j p : Nat) (hi : i < q.length) (hj : j < q.length) (hp : p < q.length) : keyF d (swapL q i j) p = swapF (keyF d q) i j p := by
  unfold keyF swapF
  rw [swapL_getD q i j p hi hj hp]
  by_cases e1 : p = i
  · simp [e1]
  · by_cases e2 : p = j
    · subst e2; simp only [e1, if_false, if_true]
    · simp [e1, e2]

theorem UpInv_congr {f f' : Nat → Int} {m j : Nat} (h : UpInv f m j) (hj : j < m) (e : ∀ p, p < m → f' p = f p) : UpInv f' m j :=
  ⟨fun c c0 cm cn => by rw [e _ (by omega), e c cm]; exact h.1 c c0 cm cn, fun c c0 cm ce j0 => by rw [e _ (by omega), e c cm]; exact h.2 c c0 cm ce j0⟩

theorem DownInv_congr {f f' : Nat → Int} {m j : Nat} (h : DownInv f m j) (hj : j < m) (e : ∀ p, p < m → f' p = f p) : DownInv f' m j :=
  ⟨fun c c0 cm cn => by rw [e _ (by omega), e c cm]; exact h.1 c c0 cm cn, fun c c0 cm ce j0 => by rw [e _ (by omega), e c cm]; exact h.2 c c0 cm ce j0⟩

set_option maxRecDepth 10000 in
set_option maxHeartbeats 400000 in
theorem up_any (S g cap : Nat) (sb : Nat → Nat) (d : Nat → Int) (k : Nat) (q : List Nat) (j : Nat) (w : World) (h : HW w g cap sb d k q) (hj : j < q.length) (hq : q.length ≤ 65536)
    (hS : w.cell? ⟨S, 9, none⟩ = some (.slice (some ⟨g, 0, none⟩) q.length cap)) (hSn : ¬ Tq g sb k S) (hSl : S < w.heap.size) (hu : UpInv (keyF d q) q.length j) :
    Calls Yba.prog 28 #[.iface 67 (.pointer (some ⟨S, 9, none⟩)), .int .i64 j] w fun e w' => e = .returned (.tuple #[]) ∧ ∃ q', q'.Perm q ∧ HW w' g cap sb d k q' ∧ HeapOn (keyF d q') q'.length ∧ Kp (Tq g sb k) w w' := by
  go_enter Yba.func28, Yba.ntmps28
  go_wp2_with fail
  go_loopw [1] (fun v wr => ∃ (q' : List Nat) (j' : Nat), v = .int .i64 j' ∧ j' < q'.length ∧ q'.length = q.length ∧ Hid (q'.Perm q) ∧ HW wr g cap sb d k q' ∧ UpInv (keyF d q') q'.length j' ∧ Kp (Tq g sb k) w wr) (fun v _ => (intOf v).toNat)
  case atStart => exact ⟨q, j, rfl, hj, rfl, List.Perm.refl _, h, hu, Kp.refl _ _⟩
  case round =>
    obtain ⟨q', j', rfl, hj', hl, hp, h', hu', hk⟩ := hrel
    have hS' : wr.cell? ⟨S, 9, none⟩ = some (.slice (some ⟨g, 0, none⟩) q'.length cap) := by rw [World.cell?_of_block (w := w) (hk.block S hSl hSn), hl]; exact hS
    have HL : Hid (q'.length = q.length) := hl
    clear hl hS h hu hj
    have mL := fun w' h => method_less S (some ⟨g, 0, none⟩) q'.length cap w' h
    have mS := fun w' h => method_swap S (some ⟨g, 0, none⟩) q'.length cap w' h
    by_cases h0 : j' = 0
    · subst h0
      go_wp2_with fail
      go_end0
      exact ⟨rfl, q', hp, h', up_done hu' (.inl rfl), hk⟩
    · obtain ⟨i, hi⟩ : ∃ i, i = (j' - 1) / 2 := ⟨_, rfl⟩
      have hdiv : ((j' : Int) - 1) / 2 = (i : Int) := by omega
      have hne : ((i : Int) == (j' : Int)) = false := by simp; omega
      have hb : (j' : Int) ≤ 65536 := by have := HL.out; omega
      have hb0 : (1 : Int) ≤ (j' : Int) := by omega
      have HI : Hid (i = (j' - 1) / 2) := hi
      have hil : i < q'.length := by omega
      clear hi h0
      go_wp2_with fail
      refine (less_any h' j' i hj' hil cap).mono ?_
      rintro e w1 ⟨rfl, hb1⟩
      have h1 := h'.below hb1
      have hS1 : w1.cell? ⟨S, 9, none⟩ = some (.slice (some ⟨g, 0, none⟩) q'.length cap) := by rw [hb1.cell (show S < wr.heap.size from Nat.lt_of_lt_of_le hSl hk.size)]; exact hS'
      by_cases hlt : d (q'.getD j' 0) < d (q'.getD i 0)
      · have hlt' : decide (d (q'.getD j' 0) < d (q'.getD i 0)) = true := by simpa using hlt
        rw [hlt']
        go_wp2_with fail
        refine (swap_any h1 i j' hil hj' cap).mono ?_
        rintro e w2 ⟨rfl, h2, hk2⟩
        have hu2 : UpInv (keyF d (swapL q' i j')) (swapL q' i j').length i := by
          rw [swapL_length]
          refine UpInv_congr (f := swapF (keyF d q') i j') ?_ hil (fun p hp => keyF_swap d q' i j' p hil hj' hp)
          rw [HI.out]
          exact up_step hu' (by omega) hj' (by have := HI.out; rw [← this]; exact hlt)
        have hp2 : Hid ((swapL q' i j').Perm q) := (swapL_perm q' i j' hil hj').trans hp
        have hl2 : (swapL q' i j').length = q'.length := swapL_length _ _ _
        have HX : Hid (i < (swapL q' i j').length ∧ (swapL q' i j').length = q.length) := ⟨by omega, hl2.trans HL.out⟩
        clear hl2
        go_wp2_with fail
        go_roundw
        case rel => exact ⟨_, i, rfl, HX.out.1, HX.out.2, hp2, h2, hu2, (hk.trans (Kp.ofBelow hb1)).trans hk2⟩
        case measure => simp [intOf]; have := HI.out; omega
      · have hlt' : decide (d (q'.getD j' 0) < d (q'.getD i 0)) = false := by simpa using hlt
        rw [hlt']
        go_wp2_with fail
        go_end0
        exact ⟨rfl, q', hp, h1, up_done hu' (.inr (by have := HI.out; rw [← this]; show ¬ d _ < d _; omega)), hk.trans (Kp.ofBelow hb1)⟩
end Go.Proofs.Ybulkdkyy
