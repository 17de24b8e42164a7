import Derived.Test.YbulkdlaoFmtLong2
namespace Go.Proofs.YbulkdlaoFmt
set_option linter.unusedVariables false
set_option linter.unusedSimpArgs false
open Go.RowKit
open Go.Sort (grow)

/-- What the table knows of two ids at the head of their clocks. -/
def firstB : Bool := (List.range 12).all fun x => (List.range 12).all fun y =>
  (ft 0 x != ft 0 y) || (((nm x).size == (nm y).size) && (if 8 ≤ (nm x).size ∧ (nm x).size ≤ 12 then !(((nm x).extract ((nm x).size - 8) (nm x).size).data == ((nm y).extract ((nm x).size - 8) (nm x).size).data) || x == y else true))
theorem firstOk : firstB = true := by kernel_rfl

theorem first_at {x y : Nat} (hx : x < 12) (hy : y < 12) (he : ft 0 x = ft 0 y) :
    (nm x).size = (nm y).size ∧ (8 ≤ (nm x).size → (nm x).size ≤ 12 → (nm x).extract ((nm x).size - 8) (nm x).size = (nm y).extract ((nm x).size - 8) (nm x).size → x = y) := by
  have h := firstOk
  unfold firstB at h
  have h1 := List.all_eq_true.1 h x (List.mem_range.2 hx)
  have h2 := List.all_eq_true.1 h1 y (List.mem_range.2 hy)
  clear h h1
  simp only [he, bne_self_eq_false, Bool.false_or, Bool.and_eq_true] at h2
  refine ⟨eq_of_beq h2.1, fun h3 h4 h5 => ?_⟩
  have h6 := h2.2
  rw [if_pos ⟨h3, h4⟩, h5] at h6
  simpa using h6

theorem CW.first {w : World} {C g cap : Nat} {a : Option Addr} {ids : ByteArray} {es : List En} (h : CW w C g cap a ids es) {x : En} (hx : es[0]? = some x) {F : Int} (hF : x.f = F) : w.cell? ⟨C, 1, none⟩ = some (.string ids) ∧ w.cell? ⟨g, 0, none⟩ = some (.int .u64 F) ∧ w.cell? ⟨g, 2, none⟩ = some (.int .i64 x.a) :=
  ⟨h.p1, by rw [← hF]; simpa using h.c0 0 x hx, by simpa using h.c2 0 x hx⟩

set_option maxRecDepth 20000 in
set_option maxHeartbeats 2000000 in
theorem first_any {C g cap C' g' cap' : Nat} {a a' : Option Addr} {ids ids' : ByteArray} {es es' : List En} {x y : En} (hx : es[0]? = some x) (hy : es'[0]? = some y) (fx : x.f = fo 0 x.k) (fy : y.f = fo 0 y.k) (ox : Ok ids x) (oy : Ok ids' y) (zX : ids.size ≤ 1048576) (zY : ids'.size ≤ 1048576) :
    ∃ R : Bool, (R = true → x.k = y.k) ∧ ∀ w, CW w C g cap a ids es → CW w C' g' cap' a' ids' es' → Calls Ybaf.prog 34 #[.pointer (some ⟨C, 0, none⟩), .pointer (some ⟨C', 0, none⟩), .pointer (some ⟨g, 0, none⟩), .pointer (some ⟨g', 0, none⟩)] w fun r w' => r = .returned (.bool R) ∧ Below w.heap.size w w' := by
  have hF0 : 0 ≤ x.f := ox.f
  have hlen := ox.len
  rw [fo_ft (by omega) ox.k] at fx
  rw [fo_ft (by omega) oy.k] at fy
  rw [fx] at hF0 hlen
  have hS := same_at (p := 0) (by omega) ox.k oy.k
  have hT := first_at ox.k oy.k
  have HS : Hid (ft 0 x.k = ft 0 y.k → flong (ft 0 x.k) = 0 → x.k = y.k) := fun e => (hS e).1
  have HT : Hid (ft 0 x.k = ft 0 y.k → _) := hT
  have fX := ox.fits
  have fY := oy.fits
  have hs := nm_size x.k
  have sX := fun (u v : Nat) => ox.sub (u := u) (v := v)
  have sY := fun (u v : Nat) => oy.sub (u := u) (v := v)
  clear hS hT ox oy
  generalize hF : ft 0 x.k = F at *
  generalize hF' : ft 0 y.k = F' at *
  clear hF hF'
  generalize hSz : (nm x.k).size = s at *
  have HSz : Hid ((nm x.k).size = s) := hSz
  clear hSz
  have hcL := fun W => len_any F W hF0
  rw [hlen] at hcL
  clear hlen hF0
  have HX : Hid (es[0]? = some x ∧ x.f = F) := ⟨hx, fx⟩
  have HY : Hid (es'[0]? = some y ∧ y.f = F') := ⟨hy, fy⟩
  clear hx hy fx fy
  by_cases hne : F = F'
  · subst hne
    have hneb : (F == F) = true := by simp
    by_cases hlg : flong F = 0
    · have HR : Hid (x.k = y.k) := HS.out rfl hlg
      have hlb : (bits BinOp.and IntKind.u64 F 2147483648 == 0) = true := by
        unfold flong at hlg
        simpa using hlg
      refine ⟨true, fun _ => HR.out, ?_⟩
      intro w h h'
      obtain ⟨p1, x0, x2⟩ := h.first HX.out.1 HX.out.2
      obtain ⟨p1', y0, y2⟩ := h'.first HY.out.1 HY.out.2
      have k1 := fun d os => cell_regrown p1 d os
      have k2 := fun d os => cell_regrown p1' d os
      have k3 := fun d os => cell_regrown x0 d os
      have k4 := fun d os => cell_regrown x2 d os
      have k5 := fun d os => cell_regrown y0 d os
      have k6 := fun d os => cell_regrown y2 d os
      clear h h' HX HY HS HT sX sY fX fY zX zY HSz hlg HR
      go_enter Ybaf.func34, Ybaf.ntmps34
      go_wp2_with fail
      with_reducible refine (hcL _).mono ?_
      rintro r w2 ⟨rfl, rfl⟩
      go_wp2_with fail
      refine wp_region_quiet_below (by kernel_rfl) (by kernel_rfl) ?_
      repeat (go_big_quiet_step (fail))
      refine wpQuiet_nil ?_
      intro _ hw'
      obtain ⟨⟨dq, osq⟩, hw''⟩ := hw'
      subst hw''
      go_wp2_with fail
      go_ret
      exact ⟨rfl, below_regrown _ dq osq⟩
    · have hlb : (bits BinOp.and IntKind.u64 F 2147483648 == 0) = false := by
        unfold flong at hlg
        simpa using hlg
      obtain ⟨hsz, hT⟩ := HT.out rfl
      by_cases hc : 8 ≤ s ∧ s ≤ 12
      · obtain ⟨q1, hq1⟩ : ∃ q1, q1 = x.a + (s - 8) := ⟨_, rfl⟩
        obtain ⟨q2, hq2⟩ : ∃ q2, q2 = y.a + (s - 8) := ⟨_, rfl⟩
        have e1 : ids.extract q1 (q1 + 8) = (nm x.k).extract (s - 8) s := by
          rw [← sX _ _ (by omega), hq1, show x.a + (s - 8) + 8 = x.a + s by omega]
        have e2 : ids'.extract q2 (q2 + 8) = (nm y.k).extract (s - 8) s := by
          rw [← sY _ _ (by rw [← hsz]; omega), hq2, show y.a + (s - 8) + 8 = y.a + s by omega]
        have l1 : q1 + 8 ≤ ids.size := by omega
        have l2 : q2 + 8 ≤ ids'.size := by omega
        have HR : Hid (decide (ids.extract q1 (q1 + 8) = ids'.extract q2 (q2 + 8)) = true → x.k = y.k) := fun hd => hT hc.1 hc.2 (by rw [← e1, ← e2]; exact of_decide_eq_true hd)
        obtain ⟨z, hz⟩ : ∃ z : Int, z = (s : Int) - 8 := ⟨_, rfl⟩
        have w1' : IntKind.i64.wrap ((x.a : Int) + ((s : Int) - 8)) = (q1 : Int) := by rw [wrap_id (by omega) (by omega)]; omega
        have w2' : IntKind.i64.wrap ((y.a : Int) + ((s : Int) - 8)) = (q2 : Int) := by rw [wrap_id (by omega) (by omega)]; omega
        have w3 : IntKind.u64.wrap z = z := by unfold IntKind.wrap; simp only [IntKind.signed, Bool.false_eq_true, Bool.false_and, if_false, IntKind.bits]; omega
        have w4 : decide (z ≤ 4) = true := decide_eq_true (by omega)
        have w5 : IntKind.u64.wrap ((s : Int) - 8) = z := by rw [← hz]; exact w3
        refine ⟨decide (ids.extract q1 (q1 + 8) = ids'.extract q2 (q2 + 8)), HR.out, ?_⟩
        intro w h h'
        obtain ⟨p1, x0, x2⟩ := h.first HX.out.1 HX.out.2
        obtain ⟨p1', y0, y2⟩ := h'.first HY.out.1 HY.out.2
        have k1 := fun d os => cell_regrown p1 d os
        have k2 := fun d os => cell_regrown p1' d os
        have k3 := fun d os => cell_regrown x0 d os
        have k4 := fun d os => cell_regrown x2 d os
        have k5 := fun d os => cell_regrown y0 d os
        have k6 := fun d os => cell_regrown y2 d os
        have cW := fun d os => Calls.regrown_of (word_ids (grow (redrawn w d) os) l1 l2 zX zY)
        clear hlg hT hsz e1 e2 l1 l2 hq1 hq2 HR w3 hz
        generalize hRR : decide (ids.extract q1 (q1 + 8) = ids'.extract q2 (q2 + 8)) = R at *
        clear hRR
        clear h h' HX HY HS HT sX sY fX fY zX zY HSz 
        go_enter Ybaf.func34, Ybaf.ntmps34
        go_wp2_with fail
        with_reducible refine (hcL _).mono ?_
        rintro r w2 ⟨rfl, rfl⟩
        go_wp2_with fail
        refine wp_region_quiet_below (by kernel_rfl) (by kernel_rfl) ?_
        repeat (go_big_quiet_step ((go_at_call 51; with_reducible exact cW _ _)))
        refine wpQuiet_nil ?_
        intro _ hw'
        obtain ⟨⟨dq, osq⟩, hw''⟩ := hw'
        subst hw''
        go_wp2_with fail
        go_ret
        exact ⟨rfl, below_regrown _ dq osq⟩
      · obtain ⟨z, hz, w4⟩ : ∃ z : Int, IntKind.u64.wrap ((s : Int) - 8) = z ∧ decide (z ≤ 4) = false := by
          refine ⟨_, rfl, decide_eq_false ?_⟩
          unfold IntKind.wrap; simp only [IntKind.signed, Bool.false_eq_true, Bool.false_and, if_false, IntKind.bits]; omega
        refine ⟨false, (fun h => by cases h), ?_⟩
        intro w h h'
        obtain ⟨p1, x0, x2⟩ := h.first HX.out.1 HX.out.2
        obtain ⟨p1', y0, y2⟩ := h'.first HY.out.1 HY.out.2
        have k1 := fun d os => cell_regrown p1 d os
        have k2 := fun d os => cell_regrown p1' d os
        have k3 := fun d os => cell_regrown x0 d os
        have k4 := fun d os => cell_regrown x2 d os
        have k5 := fun d os => cell_regrown y0 d os
        have k6 := fun d os => cell_regrown y2 d os
        clear h h' HX HY HS HT sX sY fX fY zX zY HSz hlg hT hsz hc
        go_enter Ybaf.func34, Ybaf.ntmps34
        go_wp2_with fail
        with_reducible refine (hcL _).mono ?_
        rintro r w2 ⟨rfl, rfl⟩
        go_wp2_with fail
        refine wp_region_quiet_below (by kernel_rfl) (by kernel_rfl) ?_
        repeat (go_big_quiet_step (fail))
        refine wpQuiet_nil ?_
        intro _ hw'
        obtain ⟨⟨dq, osq⟩, hw''⟩ := hw'
        subst hw''
        go_wp2_with fail
        go_ret
        exact ⟨rfl, below_regrown _ dq osq⟩
  · have hneb : (F == F') = false := by simpa using hne
    refine ⟨false, (fun h => by cases h), ?_⟩
    intro w h h'
    obtain ⟨p1, x0, x2⟩ := h.first HX.out.1 HX.out.2
    obtain ⟨p1', y0, y2⟩ := h'.first HY.out.1 HY.out.2
    have k1 := fun d os => cell_regrown p1 d os
    have k2 := fun d os => cell_regrown p1' d os
    have k3 := fun d os => cell_regrown x0 d os
    have k4 := fun d os => cell_regrown x2 d os
    have k5 := fun d os => cell_regrown y0 d os
    have k6 := fun d os => cell_regrown y2 d os
    clear h h' HX HY HS HT sX sY fX fY zX zY HSz hne
    go_enter Ybaf.func34, Ybaf.ntmps34
    go_wp2_with fail
    with_reducible refine (hcL _).mono ?_
    rintro r w2 ⟨rfl, rfl⟩
    go_wp2_with fail
    refine wp_region_quiet_below (by kernel_rfl) (by kernel_rfl) ?_
    repeat (go_big_quiet_step (fail))
    refine wpQuiet_nil ?_
    intro _ hw'
    obtain ⟨⟨dq, osq⟩, hw''⟩ := hw'
    subst hw''
    go_wp2_with fail
    go_ret
    exact ⟨rfl, below_regrown _ dq osq⟩
end Go.Proofs.YbulkdlaoFmt
