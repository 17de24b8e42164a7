import Derived.Test.YbulkdlaoFmtLong2
namespace Go.Proofs.YbulkdlaoFmt
set_option linter.unusedVariables false
set_option linter.unusedSimpArgs false
open Go.RowKit
open Go.Sort (grow)

theorem str_dec (a b : ByteArray) : (a.toList == b.toList) = decide (a = b) := by
  by_cases h : a = b
  · rw [h]; simp
  · rw [decide_eq_false h, beq_eq_false_iff_ne]
    exact fun e => h (WideShapes.bytes_inj (by rw [ByteArray.toList_eq, ByteArray.toList_eq] at e; exact e))

set_option maxRecDepth 20000 in
set_option maxHeartbeats 2000000 in
theorem sameid_any {w : World} {C g cap C' g' cap' : Nat} {a a' : Option Addr} {ids ids' : ByteArray} {es es' : List En} (h : CW w C g cap a ids es) (h' : CW w C' g' cap' a' ids' es') {i j p : Nat} {x y : En} (hx : es[i]? = some x) (hy : es'[j]? = some y) (hp : p < 13) (fx : x.f = fo p x.k) (fy : y.f = fo p y.k) :
    Calls Ybaf.prog 74 #[.pointer (some ⟨C, 0, none⟩), .pointer (some ⟨C', 0, none⟩), .int .i64 i, .int .i64 j] w fun r w' => r = .returned (.bool (decide (x.k = y.k))) ∧ Below w.heap.size w w' := by
  have ox := h.ok x (List.mem_of_getElem? hx)
  have oy := h'.ok y (List.mem_of_getElem? hy)
  have hil : i < es.length := (List.getElem?_eq_some_iff.1 hx).1
  have hjl : j < es'.length := (List.getElem?_eq_some_iff.1 hy).1
  obtain rfl := h.form (by omega)
  obtain rfl := h'.form (by omega)
  have p0 := h.p0
  have p1 := h.p1
  have p0' := h'.p0
  have p1' := h'.p1
  have x0 := h.c0 i x hx
  have x2 := h.c2 i x hx
  have y0 := h'.c0 j y hy
  have y2 := h'.c2 j y hy
  have hF0 : 0 ≤ x.f := ox.f
  rw [fx, fo_ft hp ox.k] at x0 hF0
  rw [fy, fo_ft hp oy.k] at y0
  have hS := same_at hp ox.k oy.k
  have hii : (i : Int) < (es.length : Int) := by omega
  have hjj : (j : Int) < (es'.length : Int) := by omega
  have HK : Hid (x.k = y.k → ft p x.k = ft p y.k) := fun e => by rw [e]
  have HS : Hid (ft p x.k = ft p y.k → _) := hS
  clear hS
  generalize hF : ft p x.k = F at *
  generalize hF' : ft p y.k = F' at *
  clear hF hF' fx fy
  by_cases hne : F = F'
  · subst hne
    have hneb : (F != F) = false := by simp
    by_cases hlg : flong F = 0
    · have hd : decide (x.k = y.k) = true := decide_eq_true ((HS.out rfl).1 hlg)
      have hlb : (bits BinOp.and IntKind.u64 F 2147483648 == 0) = true := by
        unfold flong at hlg
        simpa using hlg
      rw [hd]
      clear hd
      go_enter Ybaf.func74, Ybaf.ntmps74
      go_wp2_with fail
      refine region_still (by kernel_rfl) ?_
      repeat still_step
      refine wpStill_nil ?_
      go_wp2_with fail
      refine region_still (by kernel_rfl) ?_
      repeat still_step
      refine wpStill_nil ?_
      go_wp2_with fail
      go_ret
      exact ⟨rfl, (Below.refl _ _).drew.drew⟩
    · have hlb : (bits BinOp.and IntKind.u64 F 2147483648 == 0) = false := by
        unfold flong at hlg
        simpa using hlg
      obtain ⟨u, v, hu, hv, huv, hvx, hvy, hw, hn⟩ := (HS.out rfl).2 hlg
      have hmid := fun W => middle_any F W hF0
      rw [hu, hv] at hmid
      have fX := ox.fits
      have fY := oy.fits
      have zX := h.isz
      have zY := h'.isz
      have sX := fun (u : Nat) => ox.sub (u := u) hvx
      have sY := fun (u : Nat) => oy.sub (u := u) hvy
      have P1 : w.drew.drew.cell? ⟨C, 1, none⟩ = some (.string ids) := p1
      have P1' : w.drew.drew.cell? ⟨C', 1, none⟩ = some (.string ids') := p1'
      have X2 : w.drew.drew.cell? ⟨g, i * 3 + 2, none⟩ = some (.int .i64 x.a) := x2
      have Y2 : w.drew.drew.cell? ⟨g', j * 3 + 2, none⟩ = some (.int .i64 y.a) := y2
      have X0 : w.drew.drew.cell? ⟨g, i * 3, none⟩ = some (.int .u64 F) := x0
      have hbd : Below w.heap.size w w.drew.drew := (Below.refl _ _).drew.drew
      clear hu hv hlg HS HK ox oy h h'
      go_enter Ybaf.func74, Ybaf.ntmps74
      go_wp2_with fail
      refine region_still (by kernel_rfl) ?_
      repeat still_step
      refine wpStill_nil ?_
      go_wp2_with fail
      refine region_still (by kernel_rfl) ?_
      repeat still_step
      refine wpStill_nil ?_
      generalize w.drew.drew = wq at *
      clear p0 p1 p0' p1' x0 x2 y0 y2
      by_cases hc : v - (u + 4) ≤ 8 ∧ 8 ≤ v
      · have hres : decide (x.k = y.k) = decide (ids.extract (x.a + (v - 8)) (x.a + v) = ids'.extract (y.a + (v - 8)) (y.a + v)) := by
          rw [sX, sY]; exact decide_eq_decide.2 (hw hc).symm
        have c1 : (v : Int) - ((u : Int) + 4) ≤ 8 := by omega
        have c2 : (8 : Int) ≤ (v : Int) := by omega
        obtain ⟨q1, hq1⟩ : ∃ q1, q1 = x.a + (v - 8) := ⟨_, rfl⟩
        obtain ⟨q2, hq2⟩ : ∃ q2, q2 = y.a + (v - 8) := ⟨_, rfl⟩
        rw [← hq1, ← hq2, show x.a + v = q1 + 8 by omega, show y.a + v = q2 + 8 by omega] at hres
        have w1 : IntKind.i64.wrap (IntKind.i64.wrap ((x.a : Int) + (v : Int)) - 8) = (q1 : Int) := by rw [wrap_id (n := (x.a : Int) + (v : Int)) (by omega) (by omega), wrap_id (by omega) (by omega)]; omega
        have w2 : IntKind.i64.wrap (IntKind.i64.wrap ((y.a : Int) + (v : Int)) - 8) = (q2 : Int) := by rw [wrap_id (n := (y.a : Int) + (v : Int)) (by omega) (by omega), wrap_id (by omega) (by omega)]; omega
        have l1 : q1 + 8 ≤ ids.size := by omega
        have l2 : q2 + 8 ≤ ids'.size := by omega
        have cW := fun d os => Calls.regrown_of (word_ids (grow (redrawn wq d) os) l1 l2 zX zY)
        have k1 := fun d os => cell_regrown P1 d os
        have k2 := fun d os => cell_regrown P1' d os
        have k3 := fun d os => cell_regrown X2 d os
        have k4 := fun d os => cell_regrown Y2 d os
        rw [← hres] at cW
        generalize hRR : decide (x.k = y.k) = R at *
        have HRR : Hid (decide (x.k = y.k) = R) := hRR
        clear hRR
        clear hw hn hres sX sY hq1 hq2 hc l1 l2
        go_wp2_with fail
        with_reducible refine (hmid _).mono ?_
        rintro r w2' ⟨rfl, rfl⟩
        go_wp2_with fail
        refine wp_region_quiet_below (by kernel_rfl) (by kernel_rfl) ?_
        repeat (quiet_step ((go_at_call 51; with_reducible exact cW _ _)))
        refine wpQuiet_nil ?_
        intro _ hw'
        obtain ⟨⟨dq, osq⟩, hw''⟩ := hw'
        subst hw''
        go_wp2_with fail
        go_ret
        exact ⟨by rw [HRR.out]; rfl, hbd.trans ((below_regrown _ dq osq).mono hbd.size)⟩
      · have hres : decide (x.k = y.k) = decide (ids.extract (x.a + (u + 4)) (x.a + v) = ids'.extract (y.a + (u + 4)) (y.a + v)) := by
          rw [sX, sY]; exact decide_eq_decide.2 (hn hc).symm
        obtain ⟨q1, hq1⟩ : ∃ q1, q1 = x.a + (u + 4) := ⟨_, rfl⟩
        obtain ⟨q2, hq2⟩ : ∃ q2, q2 = y.a + (u + 4) := ⟨_, rfl⟩
        obtain ⟨r1, hr1⟩ : ∃ r1, r1 = x.a + v := ⟨_, rfl⟩
        obtain ⟨r2, hr2⟩ : ∃ r2, r2 = y.a + v := ⟨_, rfl⟩
        rw [← hq1, ← hq2, ← hr1, ← hr2] at hres
        have w1 : IntKind.i64.wrap ((x.a : Int) + ((u : Int) + 4)) = (q1 : Int) := by rw [wrap_id (by omega) (by omega)]; omega
        have w2 : IntKind.i64.wrap ((y.a : Int) + ((u : Int) + 4)) = (q2 : Int) := by rw [wrap_id (by omega) (by omega)]; omega
        have w3 : IntKind.i64.wrap ((x.a : Int) + (v : Int)) = (r1 : Int) := by rw [wrap_id (by omega) (by omega)]; omega
        have w4 : IntKind.i64.wrap ((y.a : Int) + (v : Int)) = (r2 : Int) := by rw [wrap_id (by omega) (by omega)]; omega
        have l1 : (q1 : Int) ≤ (r1 : Int) := by omega
        have l2 : (q2 : Int) ≤ (r2 : Int) := by omega
        have l3 : (r1 : Int) ≤ (ids.size : Int) := by omega
        have l4 : (r2 : Int) ≤ (ids'.size : Int) := by omega
        have hse := str_dec (ids.extract q1 r1) (ids'.extract q2 r2)
        rw [← hres] at hse
        have k1 := fun d os => cell_regrown P1 d os
        have k2 := fun d os => cell_regrown P1' d os
        have k3 := fun d os => cell_regrown X2 d os
        have k4 := fun d os => cell_regrown Y2 d os
        have hcase : (8 : Int) < (v : Int) - ((u : Int) + 4) ∨ ((v : Int) - ((u : Int) + 4) ≤ 8 ∧ (v : Int) < 8) := by omega
        generalize hRR : decide (x.k = y.k) = R at *
        have HRR : Hid (decide (x.k = y.k) = R) := hRR
        clear hRR
        clear hw hn hres sX sY hq1 hq2 hr1 hr2 hc
        rcases hcase with c1 | ⟨c1, c2⟩
        · have c1n : ¬ (v : Int) - ((u : Int) + 4) ≤ 8 := by omega
          go_wp2_with fail
          with_reducible refine (hmid _).mono ?_
          rintro r w2' ⟨rfl, rfl⟩
          go_wp2_with fail
          refine wp_region_quiet_below (by kernel_rfl) (by kernel_rfl) ?_
          repeat (quiet_step (fail))
          refine wpQuiet_nil ?_
          intro _ hw'
          obtain ⟨⟨dq, osq⟩, hw''⟩ := hw'
          subst hw''
          go_wp2_with fail
          go_ret
          exact ⟨by rw [HRR.out]; rfl, hbd.trans ((below_regrown _ dq osq).mono hbd.size)⟩
        · have c2n : ¬ (8 : Int) ≤ (v : Int) := by omega
          go_wp2_with fail
          with_reducible refine (hmid _).mono ?_
          rintro r w2' ⟨rfl, rfl⟩
          go_wp2_with fail
          refine wp_region_quiet_below (by kernel_rfl) (by kernel_rfl) ?_
          repeat (quiet_step (fail))
          refine wpQuiet_nil ?_
          intro _ hw'
          obtain ⟨⟨dq, osq⟩, hw''⟩ := hw'
          subst hw''
          go_wp2_with fail
          go_ret
          exact ⟨by rw [HRR.out]; rfl, hbd.trans ((below_regrown _ dq osq).mono hbd.size)⟩
  · have hneb : (F != F') = true := by simpa using hne
    have hd : decide (x.k = y.k) = false := decide_eq_false (fun e => hne (HK.out e))
    rw [hd]
    clear hd hne
    go_enter Ybaf.func74, Ybaf.ntmps74
    go_wp2_with fail
    refine region_still (by kernel_rfl) ?_
    repeat still_step
    refine wpStill_nil ?_
    go_wp2_with fail
    refine region_still (by kernel_rfl) ?_
    repeat still_step
    refine wpStill_nil ?_
    go_wp2_with fail
    go_ret
    exact ⟨rfl, (Below.refl _ _).drew.drew⟩
end Go.Proofs.YbulkdlaoFmt
