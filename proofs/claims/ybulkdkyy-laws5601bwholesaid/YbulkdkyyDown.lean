import Derived.Test.YbulkdkyyUp
namespace Go.Proofs.Ybulkdkyy
set_option linter.unusedVariables false
set_option linter.unusedSimpArgs false
open Go.RowKit

section
variable {w : World} {g cap : Nat} {sb : Nat → Nat} {d : Nat → Int} {k : Nat} {q : List Nat}
theorem less_at (h : HW w g cap sb d k q) (x y : Int) (i j : Nat) (hx : x = i) (hy : y = j) (hi : i < q.length) (hj : j < q.length) (c : Nat) :
    Calls Yba.prog 86 #[.slice (some ⟨g, 0, none⟩) q.length c, .int .i64 x, .int .i64 y] w fun e w' => e = .returned (.bool (decide (d (q.getD i 0) < d (q.getD j 0)))) ∧ Below w.heap.size w w' := by
  subst hx hy; exact less_any h i j hi hj c
theorem swap_at (h : HW w g cap sb d k q) (x y : Int) (i j : Nat) (hx : x = i) (hy : y = j) (hi : i < q.length) (hj : j < q.length) (c : Nat) :
    Calls Yba.prog 87 #[.slice (some ⟨g, 0, none⟩) q.length c, .int .i64 x, .int .i64 y] w fun e w' => e = .returned (.tuple #[]) ∧ HW w' g cap sb d k (swapL q i j) ∧ Kp (Tq g sb k) w w' := by
  subst hx hy; exact swap_any h i j hi hj c
end

set_option maxRecDepth 10000 in
set_option maxHeartbeats 400000 in
theorem down_zero (S : Nat) (w : World) :
    Calls Yba.prog 29 #[.iface 67 (.pointer (some ⟨S, 9, none⟩)), .int .i64 0, .int .i64 0] w fun e w' => (∃ r, e = .returned (.bool r)) ∧ w' = w := by
  go_enter Yba.func29, Yba.ntmps29
  go_wp2_with fail
  refine wp_loop_rounds 1 ?_
  rw [rounds_succ]
  go_wp2_with fail
  go_ret
  exact ⟨⟨_, rfl⟩, rfl⟩

set_option maxRecDepth 10000 in
set_option maxHeartbeats 1000000 in
theorem down_pos (S g cap : Nat) (sb : Nat → Nat) (d : Nat → Int) (k : Nat) (q : List Nat) (m : Nat) (w : World) (h : HW w g cap sb d k q) (hm0 : 0 < m) (hm : m ≤ q.length) (hq : q.length ≤ 65536)
    (hS : w.cell? ⟨S, 9, none⟩ = some (.slice (some ⟨g, 0, none⟩) q.length cap)) (hSn : ¬ Tq g sb k S) (hSl : S < w.heap.size) (hu : DownInv (keyF d q) m 0) :
    Calls Yba.prog 29 #[.iface 67 (.pointer (some ⟨S, 9, none⟩)), .int .i64 0, .int .i64 m] w fun e w' => (∃ r, e = .returned (.bool r)) ∧ ∃ q', q'.Perm q ∧ HW w' g cap sb d k q' ∧ HeapOn (keyF d q') m ∧ (∀ p, m ≤ p → p < q.length → q'.getD p 0 = q.getD p 0) ∧ Kp (Tq g sb k) w w' := by
  go_enter Yba.func29, Yba.ntmps29
  go_wp2_with fail
  go_loopw [7] (fun v wr => ∃ (q' : List Nat) (i' : Nat), v = .int .i64 i' ∧ i' < m ∧ q'.length = q.length ∧ Hid (q'.Perm q) ∧ HW wr g cap sb d k q' ∧ DownInv (keyF d q') m i' ∧ Hid (∀ p, m ≤ p → p < q.length → q'.getD p 0 = q.getD p 0) ∧ Kp (Tq g sb k) w wr) (fun v _ => m - (intOf v).toNat)
  case atStart => exact ⟨q, 0, rfl, hm0, rfl, List.Perm.refl _, h, hu, fun _ _ _ => rfl, Kp.refl _ _⟩
  case round =>
    obtain ⟨q', i', rfl, hi', hl, hp, h', hu', hr, hk⟩ := hrel
    have hS' : wr.cell? ⟨S, 9, none⟩ = some (.slice (some ⟨g, 0, none⟩) q'.length cap) := by rw [World.cell?_of_block (w := w) (hk.block S hSl hSn), hl]; exact hS
    have HL : Hid (q'.length = q.length) := hl
    have hm' : m ≤ q'.length := by omega
    have hm2 : (m : Int) ≤ 65536 := by omega
    have HS : Hid (w.cell? ⟨S, 9, none⟩ = some (.slice (some ⟨g, 0, none⟩) q.length cap)) := hS
    clear hl hS h hu
    have mL := fun w' h => method_less S (some ⟨g, 0, none⟩) q'.length cap w' h
    have mS := fun w' h => method_swap S (some ⟨g, 0, none⟩) q'.length cap w' h
    by_cases hc : m ≤ 2 * i' + 1
    · have hc' : (m : Int) ≤ 2 * (i' : Int) + 1 := by omega
      have hfin : HeapOn (keyF d q') m := down_done hu' (fun c cm hcc => by omega)
      go_wp2_with fail
      go_ret
      exact ⟨⟨_, rfl⟩, q', hp, h', hfin, hr, hk⟩
    · have hc' : ¬ (m : Int) ≤ 2 * (i' : Int) + 1 := by omega
      by_cases hc2 : 2 * i' + 2 < m
      · have hc2' : 2 * (i' : Int) + 1 + 1 < (m : Int) := by omega
        go_wp2_with fail
        refine (less_at h' _ _ (2 * i' + 2) (2 * i' + 1) (by omega) (by omega) (by omega) (by omega) cap).mono ?_
        rintro e w1 ⟨rfl, hb1⟩
        have h1 := h'.below hb1
        have hk1 : Kp (Tq g sb k) w w1 := hk.trans (Kp.ofBelow hb1)
        have hS1 : w1.cell? ⟨S, 9, none⟩ = some (.slice (some ⟨g, 0, none⟩) q'.length cap) := by rw [World.cell?_of_block (w := w) (hk1.block S hSl hSn), HL.out]; exact HS.out
        by_cases hl12 : d (q'.getD (2 * i' + 2) 0) < d (q'.getD (2 * i' + 1) 0)
        · have hl12' : decide (d (q'.getD (2 * i' + 2) 0) < d (q'.getD (2 * i' + 1) 0)) = true := by simpa using hl12
          rw [hl12']
          have hmin : ∀ c, c < m → c = 2 * i' + 1 ∨ c = 2 * i' + 2 → keyF d q' (2 * i' + 2) ≤ keyF d q' c := fun c _ hcc => by rcases hcc with rfl | rfl; exact Int.le_of_lt hl12; exact Int.le_refl _
          go_wp2_with fail
          refine (less_at h1 _ _ (2 * i' + 2) i' (by omega) rfl (by omega) (by omega) cap).mono ?_
          rintro e w3 ⟨rfl, hb3⟩
          have h3 := h1.below hb3
          have hk3 : Kp (Tq g sb k) w w3 := hk1.trans (Kp.ofBelow hb3)
          have hS3 : w3.cell? ⟨S, 9, none⟩ = some (.slice (some ⟨g, 0, none⟩) q'.length cap) := by rw [World.cell?_of_block (w := w) (hk3.block S hSl hSn), HL.out]; exact HS.out
          by_cases hlt : d (q'.getD (2 * i' + 2) 0) < d (q'.getD i' 0)
          · have hlt' : decide (d (q'.getD (2 * i' + 2) 0) < d (q'.getD i' 0)) = true := by simpa using hlt
            rw [hlt']
            go_wp2_with fail
            refine (swap_at h3 _ _ i' (2 * i' + 2) rfl (by omega) (by omega) (by omega) cap).mono ?_
            rintro e w4 ⟨rfl, h4, hk4⟩
            have hu4 : DownInv (keyF d (swapL q' i' (2 * i' + 2))) m (2 * i' + 2) :=
              DownInv_congr (f := swapF (keyF d q') i' (2 * i' + 2)) (down_step hu' (by omega) (by omega) hmin hlt) (by omega) (fun p hp => keyF_swap d q' i' (2 * i' + 2) p (by omega) (by omega) (by omega))
            have hp4 : Hid ((swapL q' i' (2 * i' + 2)).Perm q) := (swapL_perm q' i' (2 * i' + 2) (by omega) (by omega)).trans hp
            have hr4 : Hid (∀ p, m ≤ p → p < q.length → (swapL q' i' (2 * i' + 2)).getD p 0 = q.getD p 0) := fun p h1 h2 => by
              have := HL.out
              rw [swapL_getD q' i' (2 * i' + 2) p (by omega) (by omega) (by omega), if_neg (by omega), if_neg (by omega)]; exact hr.out p h1 h2
            have HX : Hid ((swapL q' i' (2 * i' + 2)).length = q.length) := (swapL_length _ _ _).trans HL.out
            go_wp2_with fail
            go_roundw
            case rel => exact ⟨_, 2 * i' + 2, by go_num, by omega, HX.out, hp4, h4, hu4, hr4, hk3.trans hk4⟩
            case measure => simp [intOf]; omega
          · have hlt' : decide (d (q'.getD (2 * i' + 2) 0) < d (q'.getD i' 0)) = false := by simpa using hlt
            rw [hlt']
            have hfin : HeapOn (keyF d q') m := down_done hu' (fun c cm hcc => by have := hmin c cm hcc; show d _ ≤ d _; have t2 : keyF d q' (2 * i' + 2) = d (q'.getD (2 * i' + 2) 0) := rfl; have t3 : keyF d q' c = d (q'.getD c 0) := rfl; omega)
            go_wp2_with fail
            go_ret
            exact ⟨⟨_, rfl⟩, q', hp, h3, hfin, hr, hk3⟩
        · have hl12' : decide (d (q'.getD (2 * i' + 2) 0) < d (q'.getD (2 * i' + 1) 0)) = false := by simpa using hl12
          rw [hl12']
          have hmin : ∀ c, c < m → c = 2 * i' + 1 ∨ c = 2 * i' + 2 → keyF d q' (2 * i' + 1) ≤ keyF d q' c := fun c _ hcc => by rcases hcc with rfl | rfl; exact Int.le_refl _; exact Int.not_lt.1 hl12
          go_wp2_with fail
          refine (less_at h1 _ _ (2 * i' + 1) i' (by omega) rfl (by omega) (by omega) cap).mono ?_
          rintro e w3 ⟨rfl, hb3⟩
          have h3 := h1.below hb3
          have hk3 : Kp (Tq g sb k) w w3 := hk1.trans (Kp.ofBelow hb3)
          have hS3 : w3.cell? ⟨S, 9, none⟩ = some (.slice (some ⟨g, 0, none⟩) q'.length cap) := by rw [World.cell?_of_block (w := w) (hk3.block S hSl hSn), HL.out]; exact HS.out
          by_cases hlt : d (q'.getD (2 * i' + 1) 0) < d (q'.getD i' 0)
          · have hlt' : decide (d (q'.getD (2 * i' + 1) 0) < d (q'.getD i' 0)) = true := by simpa using hlt
            rw [hlt']
            go_wp2_with fail
            refine (swap_at h3 _ _ i' (2 * i' + 1) rfl (by omega) (by omega) (by omega) cap).mono ?_
            rintro e w4 ⟨rfl, h4, hk4⟩
            have hu4 : DownInv (keyF d (swapL q' i' (2 * i' + 1))) m (2 * i' + 1) :=
              DownInv_congr (f := swapF (keyF d q') i' (2 * i' + 1)) (down_step hu' (by omega) (by omega) hmin hlt) (by omega) (fun p hp => keyF_swap d q' i' (2 * i' + 1) p (by omega) (by omega) (by omega))
            have hp4 : Hid ((swapL q' i' (2 * i' + 1)).Perm q) := (swapL_perm q' i' (2 * i' + 1) (by omega) (by omega)).trans hp
            have hr4 : Hid (∀ p, m ≤ p → p < q.length → (swapL q' i' (2 * i' + 1)).getD p 0 = q.getD p 0) := fun p h1 h2 => by
              have := HL.out
              rw [swapL_getD q' i' (2 * i' + 1) p (by omega) (by omega) (by omega), if_neg (by omega), if_neg (by omega)]; exact hr.out p h1 h2
            have HX : Hid ((swapL q' i' (2 * i' + 1)).length = q.length) := (swapL_length _ _ _).trans HL.out
            go_wp2_with fail
            go_roundw
            case rel => exact ⟨_, 2 * i' + 1, by go_num, by omega, HX.out, hp4, h4, hu4, hr4, hk3.trans hk4⟩
            case measure => simp [intOf]; omega
          · have hlt' : decide (d (q'.getD (2 * i' + 1) 0) < d (q'.getD i' 0)) = false := by simpa using hlt
            rw [hlt']
            have hfin : HeapOn (keyF d q') m := down_done hu' (fun c cm hcc => by have := hmin c cm hcc; show d _ ≤ d _; have t2 : keyF d q' (2 * i' + 1) = d (q'.getD (2 * i' + 1) 0) := rfl; have t3 : keyF d q' c = d (q'.getD c 0) := rfl; omega)
            go_wp2_with fail
            go_ret
            exact ⟨⟨_, rfl⟩, q', hp, h3, hfin, hr, hk3⟩
      · have hc2' : ¬ 2 * (i' : Int) + 1 + 1 < (m : Int) := by omega
        have hmin : ∀ c, c < m → c = 2 * i' + 1 ∨ c = 2 * i' + 2 → keyF d q' (2 * i' + 1) ≤ keyF d q' c := fun c _ hcc => by rcases hcc with rfl | rfl; exact Int.le_refl _; omega
        go_wp2_with fail
        refine (less_at h' _ _ (2 * i' + 1) i' (by omega) rfl (by omega) (by omega) cap).mono ?_
        rintro e w3 ⟨rfl, hb3⟩
        have h3 := h'.below hb3
        have hk3 : Kp (Tq g sb k) w w3 := hk.trans (Kp.ofBelow hb3)
        have hS3 : w3.cell? ⟨S, 9, none⟩ = some (.slice (some ⟨g, 0, none⟩) q'.length cap) := by rw [World.cell?_of_block (w := w) (hk3.block S hSl hSn), HL.out]; exact HS.out
        by_cases hlt : d (q'.getD (2 * i' + 1) 0) < d (q'.getD i' 0)
        · have hlt' : decide (d (q'.getD (2 * i' + 1) 0) < d (q'.getD i' 0)) = true := by simpa using hlt
          rw [hlt']
          go_wp2_with fail
          refine (swap_at h3 _ _ i' (2 * i' + 1) rfl (by omega) (by omega) (by omega) cap).mono ?_
          rintro e w4 ⟨rfl, h4, hk4⟩
          have hu4 : DownInv (keyF d (swapL q' i' (2 * i' + 1))) m (2 * i' + 1) :=
            DownInv_congr (f := swapF (keyF d q') i' (2 * i' + 1)) (down_step hu' (by omega) (by omega) hmin hlt) (by omega) (fun p hp => keyF_swap d q' i' (2 * i' + 1) p (by omega) (by omega) (by omega))
          have hp4 : Hid ((swapL q' i' (2 * i' + 1)).Perm q) := (swapL_perm q' i' (2 * i' + 1) (by omega) (by omega)).trans hp
          have hr4 : Hid (∀ p, m ≤ p → p < q.length → (swapL q' i' (2 * i' + 1)).getD p 0 = q.getD p 0) := fun p h1 h2 => by
            have := HL.out
            rw [swapL_getD q' i' (2 * i' + 1) p (by omega) (by omega) (by omega), if_neg (by omega), if_neg (by omega)]; exact hr.out p h1 h2
          have HX : Hid ((swapL q' i' (2 * i' + 1)).length = q.length) := (swapL_length _ _ _).trans HL.out
          go_wp2_with fail
          go_roundw
          case rel => exact ⟨_, 2 * i' + 1, by go_num, by omega, HX.out, hp4, h4, hu4, hr4, hk3.trans hk4⟩
          case measure => simp [intOf]; omega
        · have hlt' : decide (d (q'.getD (2 * i' + 1) 0) < d (q'.getD i' 0)) = false := by simpa using hlt
          rw [hlt']
          have hfin : HeapOn (keyF d q') m := down_done hu' (fun c cm hcc => by have := hmin c cm hcc; show d _ ≤ d _; have t2 : keyF d q' (2 * i' + 1) = d (q'.getD (2 * i' + 1) 0) := rfl; have t3 : keyF d q' c = d (q'.getD c 0) := rfl; omega)
          go_wp2_with fail
          go_ret
          exact ⟨⟨_, rfl⟩, q', hp, h3, hfin, hr, hk3⟩
end Go.Proofs.Ybulkdkyy
