import Derived.Test.YbulkdkyyPush
namespace Go.Proofs.Ybulkdkyy
set_option linter.unusedVariables false
set_option linter.unusedSimpArgs false
open Go.RowKit

theorem upInv_of_heap {d : Nat → Int} {q : List Nat} {i : Nat} (h : HeapOn (keyF d q) q.length) : UpInv (keyF d (q ++ [i])) (q.length + 1) q.length := by
  have e : ∀ p, p < q.length → keyF d (q ++ [i]) p = keyF d q p := fun p hp => by simp [keyF, List.getD, List.getElem?_append_left hp]
  refine ⟨fun c c0 cm cn => ?_, fun c c0 cm ce j0 => ?_⟩
  · rw [e c (by omega), e _ (by omega)]; exact h c c0 (by omega)
  · omega

set_option maxRecDepth 10000 in
set_option maxHeartbeats 400000 in
theorem hpush_any {w : World} {v : Value} {sb : Nat → Nat} {d : Nat → Int} {k : Nat} {q : List Nat} (h : HV w v sb d k q) (S : Nat) (m : Int) (c i : Nat) (hS : Srv w S m v c) (hi : i < k) (hn : i ∉ q) (hq : q.length + 1 ≤ 65536)
    (hh : HeapOn (keyF d q) q.length) :
    Calls Yba.prog 15 #[.iface 67 (.pointer (some ⟨S, 9, none⟩)), .iface 41 (.pointer (some ⟨sb i, 0, none⟩))] w fun e w' => e = .returned (.tuple #[]) ∧
      ∃ g cap q', q'.Perm (q ++ [i]) ∧ HW w' g cap sb d k q' ∧ Srv w' S m (.slice (some ⟨g, 0, none⟩) q'.length cap) c ∧ HeapOn (keyF d q') q'.length ∧ Kp (Ts S v sb k) w w' ∧ (v.ownBlock = some g ∨ w.heap.size ≤ g) := by
  go_enter Yba.func15, Yba.ntmps15
  go_wp2_with fail
  refine (epush_any h S m c i hS hi hn (by omega)).mono ?_
  rintro e w1 ⟨rfl, g, cap, h1, hS1, hk1, hloc⟩
  have mL := method_len S (some ⟨g, 0, none⟩) (q.length + 1) cap w1 hS1.exp
  go_wp2_with (go_at_call 85; refine (len_any _ _ _ _).mono ?_; rintro e w' ⟨rfl, rfl⟩)
  have hSn : ¬ Tq g sb k S := by
    rintro (e | ⟨j, hj, e⟩)
    · obtain ⟨cur, hb, _⟩ := h1.row; exact hS1.ne_row hb (by decide) e
    · obtain ⟨x, hx⟩ := h1.any hj; exact hS1.ne_sess hx e
  refine (up_any S g cap sb d k (q ++ [i]) q.length _ h1 (by simp) (by simpa using hq) (by simpa using hS1.exp) hSn hS1.lt (by simpa using upInv_of_heap hh)).mono ?_
  rintro e w2 ⟨rfl, q', hp, h2, hh2, hk2⟩
  have hkk : Kp (Ts S v sb k) w w2 := by
    refine ⟨hk2.os.trans hk1.os, hk2.tape.trans hk1.tape, hk2.output.trans hk1.output, Nat.le_trans hk1.size hk2.size, fun b hb hT => ?_⟩
    refine (hk2.block b (Nat.lt_of_lt_of_le hb hk1.size) ?_).trans (hk1.block b hb hT)
    rintro (e | ⟨j, hj, e⟩)
    · rcases hloc with hl | hl
      · exact hT (.inr (.inl (by rw [hl, e])))
      · omega
    · exact hT (.inr (.inr ⟨j, hj, e⟩))
  have hS2 := hS1.of_block (hk2.block S hS1.lt hSn)
  have hl2 : q'.length = q.length + 1 := by rw [hp.length_eq]; simp
  have HL : Hid (q'.length = q.length + 1) := hl2
  clear hl2
  go_wp2
  go_end0
  exact ⟨rfl, g, cap, q', hp, h2, by rw [HL.out]; exact hS2, hh2, hkk, hloc⟩

theorem swap_len {w : World} {g cap : Nat} {sb : Nat → Nat} {d : Nat → Int} {k : Nat} {q : List Nat} (h : HW w g cap sb d k q) (len : Nat) (hlen : len = q.length) (x y : Int) (i j : Nat) (hx : x = i) (hy : y = j) (hi : i < q.length) (hj : j < q.length) (c : Nat) :
    Calls Yba.prog 87 #[.slice (some ⟨g, 0, none⟩) len c, .int .i64 x, .int .i64 y] w fun e w' => e = .returned (.tuple #[]) ∧ HW w' g cap sb d k (swapL q i j) ∧ Kp (Tq g sb k) w w' := by
  subst hlen; exact swap_at h x y i j hx hy hi hj c

/-! ### expiries.Pop -/
set_option maxRecDepth 10000 in
set_option maxHeartbeats 400000 in
theorem epop_low (S g n cap b : Nat) (x : Value) (w : World) (hn0 : 0 < n) (hn : n ≤ 65536) (hcap : n ≤ cap) (hcm : cap ≤ maxLen)
    (hS : w.cell? ⟨S, 9, none⟩ = some (.slice (some ⟨g, 0, none⟩) n cap)) (fS : w.frozen? ⟨S, 9, none⟩ = false)
    (hg : w.cell? ⟨g, n - 1, none⟩ = some (.pointer (some ⟨b, 0, none⟩))) (fg : w.frozen? ⟨g, n - 1, none⟩ = false)
    (hb : w.cell? ⟨b, 21, none⟩ = some x) (fb : w.frozen? ⟨b, 21, none⟩ = false) (hSb : S ≠ b) (hSg : S ≠ g) (hbg : b ≠ g) :
    Calls Yba.prog 96 #[.pointer (some ⟨S, 9, none⟩)] w fun e w' => e = .returned (.iface 41 (.pointer (some ⟨b, 0, none⟩))) ∧
      w' = ((w.setCell ⟨g, n - 1, none⟩ (.pointer none)).setCell ⟨b, 21, none⟩ (.int .i64 (-1))).setCell ⟨S, 9, none⟩ (.slice (some ⟨g, 0, none⟩) (n - 1) cap) := by
  obtain ⟨p, rfl⟩ : ∃ p, n = p + 1 := ⟨n - 1, by omega⟩
  simp only [Nat.add_sub_cancel] at *
  unfold maxLen at hcm
  have e1 : ((p : Int) + 1 - 1) = (p : Int) := by omega
  go_enter Yba.func96, Yba.ntmps96
  go_wp2
  go_ret
  exact ⟨rfl, rfl⟩

theorem getD_snoc (q0 : List Nat) (x : Nat) : (q0 ++ [x]).getD q0.length 0 = x := by simp [List.getD]
theorem getD_snoc_lt (q0 : List Nat) (x j : Nat) (hj : j < q0.length) : (q0 ++ [x]).getD j 0 = q0.getD j 0 := by simp [List.getD, List.getElem?_append_left hj]

theorem epop_any {w : World} {g cap : Nat} {sb : Nat → Nat} {d : Nat → Int} {k : Nat} {q0 : List Nat} {x : Nat} (h : HW w g cap sb d k (q0 ++ [x])) (S : Nat) (m : Int) (c : Nat) (hS : Srv w S m (.slice (some ⟨g, 0, none⟩) (q0.length + 1) cap) c) (hq : q0.length + 1 ≤ 65536) :
    Calls Yba.prog 96 #[.pointer (some ⟨S, 9, none⟩)] w fun e w' => e = .returned (.iface 41 (.pointer (some ⟨sb x, 0, none⟩))) ∧
      HW w' g cap sb d k q0 ∧ Srv w' S m (.slice (some ⟨g, 0, none⟩) q0.length cap) c ∧ Kp (Ts S (.slice (some ⟨g, 0, none⟩) (q0.length + 1) cap) sb k) w w' := by
  have hl : q0.length < (q0 ++ [x]).length := by simp
  have mx : x < k := h.ids x (by simp)
  have hc := h.cell hl
  have hs := h.inq q0.length hl
  rw [getD_snoc] at hc hs
  have gx := h.sb_ne mx
  have hSb := hS.ne_sess hs
  have hSg : S ≠ g := by obtain ⟨cur, hb, _⟩ := h.row; exact hS.ne_row hb (by decide)
  have hroom := h.room
  simp at hroom
  refine (epop_low S g (q0.length + 1) cap (sb x) _ w (by omega) hq hroom h.capm hS.exp (hS.frozen 9) hc (h.frozen _) hs.index (hs.frozen 21) hSb hSg gx).mono ?_
  rintro e w' ⟨rfl, rfl⟩
  refine ⟨rfl, ?_⟩
  simp only [Nat.add_sub_cancel]
  have hnd := h.nodup
  rw [List.nodup_append] at hnd
  have hxq : x ∉ q0 := fun hm => hnd.2.2 x hm x (by simp) rfl
  refine ⟨⟨?_, by omega, h.capm, ?_, ?_, fun j hj => h.ids j (by simp [hj]), hnd.1, h.inj⟩, ?_, ?_⟩
  · obtain ⟨cur, hb, hsz, hcc⟩ := h.row
    refine ⟨cur.setIfInBounds q0.length (.pointer none), ?_, by simpa using hsz, fun j hj => ?_⟩
    · rw [RowKit.Below.heap_setCell _ _ _ _ (Ne.symm hSg), RowKit.Below.heap_setCell _ _ _ _ (Ne.symm gx)]
      simp [World.setCell, Array.getElem?_modify, hb]
    · rw [Array.getElem?_setIfInBounds, if_neg (by omega)]
      have := hcc j (by simp; omega)
      rw [getD_snoc_lt _ _ _ hj] at this; exact this
  · intro j hj
    have hx := h.inq j (by simp; omega)
    rw [getD_snoc_lt _ _ _ hj] at hx
    have mj : q0.getD j 0 < k := h.ids _ (List.mem_append.2 (.inl (getD_mem hj)))
    have n1 : sb (q0.getD j 0) ≠ sb x := fun e => hxq (h.inj _ _ mj mx e ▸ getD_mem hj)
    exact ((hx.setOther (h.sb_ne mj) _).setOther n1 _).setOther (fun e => hS.ne_sess hx e.symm) _
  · intro j hj hjn
    by_cases e : j = x
    · subst e
      exact ((hs.setOther gx _).setIndex (-1)).setOther (fun e => hSb e.symm) _
    · have hx := h.out j hj (by simp [hjn, e])
      have n1 : sb j ≠ sb x := fun e' => e (h.inj _ _ hj mx e')
      exact ((hx.setOther (h.sb_ne hj) _).setOther n1 _).setOther (fun e => hS.ne_sess hx e.symm) _
  · exact ((hS.of_block (w' := w.setCell ⟨g, q0.length, none⟩ (.pointer none)) (RowKit.Below.heap_setCell _ _ _ _ hSg)).of_block (RowKit.Below.heap_setCell _ _ _ _ hSb)).setExp _
  · exact (((Kp.refl _ w).setCell (.inl (.inr (.inl rfl))) _).setCell (.inl (.inr (.inr ⟨x, mx, rfl⟩))) _).setCell (.inl (.inl rfl)) _

theorem downInv_of_heap {d : Nat → Int} {q : List Nat} {n : Nat} (hn : q.length = n + 1) (h : HeapOn (keyF d q) (n + 1)) (hn0 : 0 < n) : DownInv (keyF d (swapL q 0 n)) n 0 := by
  refine ⟨fun c c0 cm cn => ?_, fun c c0 cm ce j0 => by omega⟩
  rw [keyF_swap d q 0 n c (by omega) (by omega) (by omega), keyF_swap d q 0 n _ (by omega) (by omega) (by omega), swapF_other _ _ _ c (by omega) (by omega), swapF_other _ _ _ _ cn (by omega)]
  exact h c c0 (by omega)

theorem snoc_of (q : List Nat) (n : Nat) (hn : q.length = n + 1) : q = q.take n ++ [q.getD n 0] := by
  have h1 : q = q.take n ++ q.drop n := (List.take_append_drop n q).symm
  have h2 : q.drop n = [q.getD n 0] := by
    rw [List.drop_eq_getElem_cons (by omega), getD_eq_getElem _ _ (by omega), List.drop_of_length_le (by omega)]
  rw [h2] at h1; exact h1

theorem down_both (S g cap : Nat) (sb : Nat → Nat) (d : Nat → Int) (k : Nat) (q : List Nat) (n x : Nat) (w1 : World) (h1 : HW w1 g cap sb d k q) (hl1 : q.length = n + 1) (hx1 : q.getD n 0 = x) (hq : n ≤ 65535)
    (hS : w1.cell? ⟨S, 9, none⟩ = some (.slice (some ⟨g, 0, none⟩) q.length cap)) (hSn : ¬ Tq g sb k S) (hSl : S < w1.heap.size) (hu : 0 < n → DownInv (keyF d q) n 0) :
    Calls Yba.prog 29 #[.iface 67 (.pointer (some ⟨S, 9, none⟩)), .int .i64 0, .int .i64 n] w1 fun e w' => (∃ r, e = .returned (.bool r)) ∧ ∃ q', q'.Perm q ∧ HW w' g cap sb d k q' ∧ HeapOn (keyF d q') n ∧ q'.getD n 0 = x ∧ Kp (Tq g sb k) w1 w' := by
  by_cases e : n = 0
  · subst e
    refine (down_zero S w1).mono ?_
    rintro e w' ⟨hr, rfl⟩
    exact ⟨hr, _, List.Perm.refl _, h1, fun c c0 cm => by omega, hx1, Kp.refl _ _⟩
  · refine (down_pos S g cap sb d k q n w1 h1 (by omega) (by omega) (by omega) hS hSn hSl (hu (by omega))).mono ?_
    rintro e w' ⟨hr, q', hp, h2, hh2, hkeep, hk2⟩
    exact ⟨hr, q', hp, h2, hh2, (hkeep n (Nat.le_refl _) (by omega)).trans hx1, hk2⟩

set_option maxRecDepth 10000 in
set_option maxHeartbeats 400000 in
theorem hpop_any {w : World} {g cap : Nat} {sb : Nat → Nat} {d : Nat → Int} {k : Nat} {q : List Nat} (h : HW w g cap sb d k q) (S : Nat) (m : Int) (c : Nat) (hS : Srv w S m (.slice (some ⟨g, 0, none⟩) q.length cap) c) (hq0 : 0 < q.length) (hq : q.length ≤ 65536)
    (hh : HeapOn (keyF d q) q.length) :
    Calls Yba.prog 20 #[.iface 67 (.pointer (some ⟨S, 9, none⟩))] w fun e w' => e = .returned (.iface 41 (.pointer (some ⟨sb (q.getD 0 0), 0, none⟩))) ∧
      ∃ q', (q' ++ [q.getD 0 0]).Perm q ∧ HW w' g cap sb d k q' ∧ Srv w' S m (.slice (some ⟨g, 0, none⟩) q'.length cap) c ∧ HeapOn (keyF d q') q'.length ∧ Kp (Ts S (.slice (some ⟨g, 0, none⟩) q.length cap) sb k) w w' := by
  obtain ⟨n, hn⟩ : ∃ n, q.length = n + 1 := ⟨q.length - 1, by omega⟩
  have hSn : ¬ Tq g sb k S := by
    rintro (e | ⟨j, hj, e⟩)
    · obtain ⟨cur, hb, _⟩ := h.row; exact hS.ne_row hb (by decide) e
    · obtain ⟨x, hx⟩ := h.any hj; exact hS.ne_sess hx e
  have HN : Hid (q.length = n + 1) := hn
  have hTs : ∀ {w w' : World}, Kp (Tq g sb k) w w' → Kp (Ts S (.slice (some ⟨g, 0, none⟩) q.length cap) sb k) w w' := fun hk => hk.wider (fun b _ hb => by
    rcases hb with e | e
    · exact .inr (.inl (by rw [e]; rfl))
    · exact .inr (.inr e))
  have HT := @hTs
  have hS0 : w.cell? ⟨S, 9, none⟩ = some (.slice (some ⟨g, 0, none⟩) (n + 1) cap) := by rw [← hn]; exact hS.exp
  have mL := method_len S (some ⟨g, 0, none⟩) (n + 1) cap w hS0
  have mW := method_swap S (some ⟨g, 0, none⟩) (n + 1) cap w hS0
  have hnb : (n : Int) ≤ 65535 := by omega
  clear hn hTs
  go_enter Yba.func20, Yba.ntmps20
  go_wp2_with (go_at_call 85; refine (len_any _ _ _ _).mono ?_; rintro e w' ⟨rfl, rfl⟩)
  have hl0 := HN.out
  refine (swap_len h (n + 1) hl0.symm _ _ 0 n rfl rfl (by omega) (by omega) cap).mono ?_
  rintro e w1 ⟨rfl, h1, hk1⟩
  have hS1 := hS.of_block (hk1.block S hS.lt hSn)
  have hl1 : (swapL q 0 n).length = n + 1 := (swapL_length _ _ _).trans hl0
  have hx1 : (swapL q 0 n).getD n 0 = q.getD 0 0 := by
    rw [swapL_getD q 0 n n (by omega) (by omega) (by omega)]
    by_cases e : n = 0
    · subst e; simp
    · simp [e]
  have hp1 := swapL_perm q 0 n (by omega) (by omega)
  have hS1' : w1.cell? ⟨S, 9, none⟩ = some (.slice (some ⟨g, 0, none⟩) (swapL q 0 n).length cap) := by rw [hl1, ← hl0]; exact hS1.exp
  have HA : Hid ((swapL q 0 n).length = n + 1 ∧ (swapL q 0 n).getD n 0 = q.getD 0 0) := ⟨hl1, hx1⟩
  have hdi : 0 < n → DownInv (keyF d (swapL q 0 n)) n 0 := downInv_of_heap hl0 (by rw [← hl0]; exact hh)
  clear hl0 hl1 hx1
  go_wp2_with fail
  refine (down_both S g cap sb d k (swapL q 0 n) n (q.getD 0 0) w1 h1 HA.out.1 HA.out.2 (by omega) hS1' hSn hS1.lt hdi).mono ?_
  rintro e w2 ⟨⟨r, rfl⟩, q2, hp2, h2, hh2, hx2, hk2⟩
  have hS2 := hS1.of_block (hk2.block S hS1.lt hSn)
  have hl2 : q2.length = n + 1 := by rw [hp2.length_eq, swapL_length]; exact HN.out
  have hsn := snoc_of q2 n hl2
  rw [hx2] at hsn
  have hlt : (q2.take n).length = n := by simp; omega
  have h2' : HW w2 g cap sb d k (q2.take n ++ [q.getD 0 0]) := by rw [← hsn]; exact h2
  have hS2' : Srv w2 S m (.slice (some ⟨g, 0, none⟩) ((q2.take n).length + 1) cap) c := by rw [hlt, ← HN.out]; exact hS2
  have hheap : HeapOn (keyF d (q2.take n)) (q2.take n).length := by
    rw [hlt]
    intro c c0 cm
    have e : ∀ p, p < n → keyF d (q2.take n) p = keyF d q2 p := fun p hp => by simp [keyF, List.getD, List.getElem?_take_of_lt hp]
    rw [e c cm, e _ (by omega)]; exact hh2 c c0 cm
  have hperm : (q2.take n ++ [q.getD 0 0]).Perm q := by rw [← hsn]; exact hp2.trans hp1
  have hkT : Kp (Ts S (.slice (some ⟨g, 0, none⟩) q.length cap) sb k) w' w2 := HT (hk1.trans hk2)
  have hqb : (q2.take n).length + 1 ≤ 65536 := by have := HN.out; omega
  have HF : Hid (q.length = (q2.take n).length + 1) := by show _ = _; rw [hlt]; exact HN.out
  have HQ : Hid (HeapOn (keyF d (q2.take n)) (q2.take n).length ∧ (q2.take n ++ [q.getD 0 0]).Perm q) := ⟨hheap, hperm⟩
  clear hsn hlt hl2 hx2 hheap hperm
  generalize q2.take n = q3 at *
  go_wp2_with fail
  refine (epop_any h2' S m c hS2' hqb).mono ?_
  rintro e w3 ⟨rfl, h3, hS3, hk3⟩
  go_wp2
  go_ret
  exact ⟨congrArg (fun i => Ending.returned (Value.iface 41 (.pointer (some ⟨sb i, 0, none⟩)))) (getD_eq_getElem q 0 hq0).symm, q3, HQ.out.2, h3, hS3, HQ.out.1, hkT.trans (by rw [HF.out]; exact hk3)⟩
end Go.Proofs.Ybulkdkyy
