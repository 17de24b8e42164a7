import Derived.Test.YbulkdlaoFmtFrom
import Derived.Test.YbulkdlaoFmtFirst
namespace Go.Proofs.YbulkdlaoFmt
set_option linter.unusedVariables false
set_option linter.unusedSimpArgs false
open Go.RowKit
open Go.Sort (grow)

/-- What compare hands back. -/
def Rb (v v' : Nat → Nat) (r : Ending) : Prop := ∃ b a : Bool, r = .returned (.tuple #[.bool b, .bool a]) ∧ Fin v v' b a

theorem fd_1 (b a : Bool) : (bits BinOp.and IntKind.u8 (fd b a) 1 != 0) = b := by cases b <;> cases a <;> rfl
theorem fd_2 (b a : Bool) : (bits BinOp.and IntKind.u8 (fd b a) 2 != 0) = a := by cases b <;> cases a <;> rfl

theorem nm_inj {x y : Nat} (hx : x < 12) (hy : y < 12) (h : nm x = nm y) : x = y := by
  have h1 := (cmp_rk hx hy).1
  have h2 := (cmp_rk hx hx).1
  rw [← h, h2] at h1
  refine (cmp_rk hx hy).2 ?_
  rcases sgn_cases (rk x) (rk y) with ⟨h3, e⟩ | ⟨h3, e⟩ | ⟨h3, e⟩
  · rw [e] at h1; simp [sgn] at h1
  · rw [e] at h1; simp [sgn] at h1
  · exact h3

theorem short_at {p x y : Nat} (hp : p < 13) (hx : x < 12) (hy : y < 12) (h : (fo p x == fcut (fo p y)) = true) : x = y := by
  rw [fo_ft hp hx, fo_ft hp hy] at h
  have h0 := shortOk
  unfold shortB at h0
  have h1 := List.all_eq_true.1 h0 p (List.mem_range.2 hp)
  have h2 := List.all_eq_true.1 h1 x (List.mem_range.2 hx)
  have h3 := List.all_eq_true.1 h2 y (List.mem_range.2 hy)
  have h4 : (ft p x != fcut (ft p y)) = false := by simpa using h
  rw [h4] at h3
  simpa using h3

/-- The state of compare's first walk. -/
structure Ck (es es' : List En) (v v' : Nat → Nat) (k : Nat) (b a : Bool) : Prop where
  m : Mg es es' v v' k k b a
  p : pvOf es k = pvOf es' k

/-- What the test of the first ids tells. -/
def Sm (n : Nat) (es es' : List En) (cv : Value) : Prop := ∃ R : Bool, cv = .bool R ∧ (R = true → 0 < n ∧ ∃ x y, es[0]? = some x ∧ es'[0]? = some y ∧ x.k = y.k)
theorem Sm.cases {n : Nat} {es es' : List En} {cv : Value} (h : Sm n es es' cv) : cv = .bool false ∨ (cv = .bool true ∧ 0 < n ∧ ∃ x y, es[0]? = some x ∧ es'[0]? = some y ∧ x.k = y.k) := by
  obtain ⟨R, rfl, h⟩ := h
  cases R with
  | false => exact .inl rfl
  | true => exact .inr ⟨rfl, h rfl⟩

set_option maxRecDepth 20000 in
set_option maxHeartbeats 2000000 in
theorem compare_any {w : World} {C g cap C' g' cap' : Nat} {ad ad' : Option Addr} {ids ids' : ByteArray} {es es' : List En} {v v' : Nat → Nat} (h : CW w C g cap ad ids es) (h' : CW w C' g' cap' ad' ids' es') (hcap : es.length ≤ cap) (hcap' : es'.length ≤ cap') (T : Two es es' v v') (hF : Frm es) (hF' : Frm es') :
    Calls Ybaf.prog 17 #[.pointer (some ⟨C, 0, none⟩), .pointer (some ⟨C', 0, none⟩), .bool false] w fun r w' => Rb v v' r ∧ Below w.heap.size w w' := by
  have hl12 := h.len
  have hl12' := h'.len
  have p0 := h.p0
  have p0' := h'.p0
  obtain ⟨n, hn⟩ : ∃ n, n = min es.length es'.length := ⟨_, rfl⟩
  have hmin : min (es.length : Int) (es'.length : Int) = (n : Int) := by omega
  have hnc : (n : Int) ≤ (cap : Int) := by omega
  have hnc' : (n : Int) ≤ (cap' : Int) := by omega
  have hn1 : n ≤ es.length := by omega
  have hn2 : n ≤ es'.length := by omega
  have HN : Hid (n = min es.length es'.length) := hn
  clear hn
  go_enter Ybaf.func17, Ybaf.ntmps17
  go_wp2_with fail
  refine region_still (by kernel_rfl) ?_
  repeat still_step
  refine wpStill_nil ?_
  go_wp2_with fail
  refine region_still (by kernel_rfl) ?_
  repeat still_step
  refine wpStill_nil ?_
  have hb0 : Below w.heap.size w w.drew.drew := (Below.refl _ _).drew.drew
  generalize w.drew.drew = wq at *
  go_upto_region 9 with fail
  go_cut [61] from 34 to 61 (fun cv wx => Sm n es es' cv ∧ Below w.heap.size w wx)
  case first =>
    have hq := h.below hb0
    have hq' := h'.below hb0
    by_cases hn0 : 0 < n
    · have hni : (0 : Int) < (n : Int) := by omega
      have hnd : decide ((0 : Int) < (n : Int)) = true := decide_eq_true hni
      obtain ⟨x, hx⟩ : ∃ x, es[0]? = some x := ⟨_, List.getElem?_eq_getElem (by omega)⟩
      obtain ⟨y, hy⟩ : ∃ y, es'[0]? = some y := ⟨_, List.getElem?_eq_getElem (by omega)⟩
      have ox := h.ok x (List.mem_of_getElem? hx)
      have oy := h'.ok y (List.mem_of_getElem? hy)
      obtain rfl := h.form (by omega)
      obtain rfl := h'.form (by omega)
      obtain ⟨R1, hR1, hcF⟩ := first_any (C := C) (g := g) (cap := cap) (C' := C') (g' := g') (cap' := cap') (a := some ⟨g, 0, none⟩) (a' := some ⟨g', 0, none⟩) hx hy (hF 0 x hx) (hF' 0 y hy) ox oy h.isz h'.isz
      have cF := fun d os => Calls.regrown_of (hcF (grow (redrawn wq d) os) (hq.below (below_regrown wq d os)) (hq'.below (below_regrown wq d os)))
      obtain ⟨p1, x0, x2⟩ := hq.first hx rfl
      obtain ⟨p1', y0, y2⟩ := hq'.first hy rfl
      have cX := fun d os => Calls.regrown_of (id_any ox h.isz g 0 (grow (redrawn wq d) os) (cell_regrown x0 d os) (cell_regrown x2 d os))
      have cY := fun d os => Calls.regrown_of (id_any oy h'.isz g' 0 (grow (redrawn wq d) os) (cell_regrown y0 d os) (cell_regrown y2 d os))
      have k1 := fun d os => cell_regrown p1 d os
      have k2 := fun d os => cell_regrown p1' d os
      have HX : Hid (x.k = y.k → ∃ x y, es[0]? = some x ∧ es'[0]? = some y ∧ x.k = y.k) := fun e => ⟨x, y, hx, hy, e⟩
      obtain ⟨R2, hse, hR2⟩ : ∃ R2 : Bool, ((nm x.k).toList == (nm y.k).toList) = R2 ∧ Hid (R2 = true → x.k = y.k) := ⟨_, rfl, fun e => by
        rw [str_dec] at e
        exact nm_inj ox.k oy.k (of_decide_eq_true e)⟩
      have HR1 : Hid (R1 = true → x.k = y.k) := hR1
      clear hR1 hcF hx hy ox oy h h' hq hq' hF hF' T p0 p0' hmin
      cases R1 with
      | true =>
        refine wp_region_quiet_below (by kernel_rfl) (by kernel_rfl) ?_
        repeat (go_big_quiet_step ((first | (go_at_call 34; with_reducible exact cF _ _) | (go_at_call 30; with_reducible exact cX _ _) | (go_at_call 30; with_reducible exact cY _ _))))
        refine wpQuiet_nil ?_
        intro _ hw'
        obtain ⟨⟨dq, osq⟩, hw''⟩ := hw'
        subst hw''
        go_wp2_with fail
        go_meet
        case rel => exact ⟨⟨true, rfl, fun _ => ⟨hn0, HX.out (HR1.out trivial)⟩⟩, hb0.trans ((below_regrown _ dq osq).mono hb0.size)⟩
      | false =>
        refine wp_region_quiet_below (by kernel_rfl) (by kernel_rfl) ?_
        repeat (go_big_quiet_step ((first | (go_at_call 34; with_reducible exact cF _ _) | (go_at_call 30; with_reducible exact cX _ _) | (go_at_call 30; with_reducible exact cY _ _))))
        refine wpQuiet_nil ?_
        intro _ hw'
        obtain ⟨⟨dq, osq⟩, hw''⟩ := hw'
        subst hw''
        go_wp2_with fail
        go_meet
        case rel => exact ⟨⟨R2, rfl, fun e => ⟨hn0, HX.out (hR2.out e)⟩⟩, hb0.trans ((below_regrown _ dq osq).mono hb0.size)⟩
    · have hni : ¬ (0 : Int) < (n : Int) := by omega
      have hnd : decide ((0 : Int) < (n : Int)) = false := decide_eq_false hni
      clear h h' hq hq' hF hF' T p0 p0' hmin
      refine wp_region_quiet_below (by kernel_rfl) (by kernel_rfl) ?_
      repeat (go_big_quiet_step (fail))
      refine wpQuiet_nil ?_
      intro _ hw'
      obtain ⟨⟨dq, osq⟩, hw''⟩ := hw'
      subst hw''
      go_wp2_with fail
      go_meet
      case rel => exact ⟨⟨false, rfl, (fun e => by cases e)⟩, hb0.trans ((below_regrown _ dq osq).mono hb0.size)⟩
  case rest =>
    obtain ⟨hSm, hb1⟩ := hcut
    have hcs := hSm.cases
    clear hSm
    go_upto_if 61 with fail
    go_cut [12, 13] from 62 to 108 (fun fv kv wx => ∃ (k : Nat) (b a : Bool), fv = .int .u8 (fd b a) ∧ kv = .int .i64 k ∧ k ≤ n ∧ Hid (Ck es es' v v' k b a) ∧ Below w.heap.size w wx)
    case first =>
      rcases hcs with rfl | ⟨rfl, hn0, x, y, hx, hy, he⟩
      · go_wp2_with fail
        go_meet
        case rel => exact ⟨0, false, false, rfl, rfl, Nat.zero_le _, ⟨Mg.start, rfl⟩, hb1⟩
      · have hni : (0 : Int) < (n : Int) := by omega
        obtain rfl := h.form (by omega)
        obtain rfl := h'.form (by omega)
        have hq := h.below hb1
        have hq' := h'.below hb1
        have x1 : wc.cell? ⟨g, 1, none⟩ = some (.int .u64 x.n) := by simpa using hq.c1 0 x hx
        have y1 : wc.cell? ⟨g', 1, none⟩ = some (.int .u64 y.n) := by simpa using hq'.c1 0 y hy
        have hco := fun W => cord_any x.n y.n W
        rw [fd_x] at hco
        have HM : Hid (Ck es es' v v' 1 (decide (x.n < y.n)) (decide (y.n < x.n))) := ⟨by simpa using (Mg.start (es := es) (es' := es') (v := v) (v' := v')).eq T hx hy he, pv_next hx hy he⟩
        clear hx hy he hq hq' p0 p0' hmin
        generalize decide (x.n < y.n) = b at *
        generalize decide (y.n < x.n) = a at *
        go_wp2_with fail
        go_quiet (exact Calls.quiet_of_same (hco _))
        go_wp2_with fail
        have hb2 : Below w.heap.size w (wc.drewN nq) := hb1.trans ((below_drewN _ nq).mono hb1.size)
        generalize wc.drewN nq = wd at *
        go_loopw [12, 13] (fun fv kv wr => ∃ (k : Nat) (b a : Bool), fv = .int .u8 (fd b a) ∧ kv = .int .i64 k ∧ k ≤ n ∧ Hid (Ck es es' v v' k b a) ∧ Below w.heap.size w wr) (fun _ kv _ => 60 - (intOf kv).toNat)
        case atStart => exact ⟨1, b, a, rfl, rfl, hn0, HM, hb2⟩
        case round =>
          clear HM hb2 x1 y1 hco
          obtain ⟨k, b, a, rfl, rfl, hkn, HM, hb2⟩ := hrel
          have hq := h.below hb2
          have hq' := h'.below hb2
          have hfe := fd_e b a
          by_cases hk : k < n
          · have hki : (k : Int) < (n : Int) := by omega
            have hkd : decide ((k : Int) < (n : Int)) = true := decide_eq_true hki
            obtain ⟨x, hx⟩ : ∃ x, es[k]? = some x := ⟨_, List.getElem?_eq_getElem (by omega)⟩
            obtain ⟨y, hy⟩ : ∃ y, es'[k]? = some y := ⟨_, List.getElem?_eq_getElem (by omega)⟩
            have x0 := hq.c0 k x hx
            have y0 := hq'.c0 k y hy
            have x1 := hq.c1 k x hx
            have y1 := hq'.c1 k y hy
            have hsc := fun W => short_any x.f y.f W
            by_cases hsh : (x.f == fcut y.f) = true
            · have he : x.k = y.k := by
                refine short_at (pvOf_lt h.ok k) (h.ok x (List.mem_of_getElem? hx)).k (h'.ok y (List.mem_of_getElem? hy)).k ?_
                have e1 := hF k x hx
                have e2 := hF' k y hy
                rw [← HM.out.p] at e2
                rw [← e1, ← e2]; exact hsh
              rw [hsh] at hsc
              by_cases hD : b = true ∧ a = true
              · obtain ⟨rfl, rfl⟩ := hD
                have hfe' : (bits BinOp.and IntKind.u8 (fd true true) 3 != 3) = false := hfe
                clear hfe hq hq' h h' hx hy T he hF hF' x1 y1 hsh
                go_wp2_with fail
                go_quiet (exact Calls.quiet_of_same (hsc _))
                go_wp2_with fail
                go_meet
                case rel => exact ⟨k, true, true, rfl, rfl, hkn, HM, hb2.trans ((below_drewN _ nq).mono hb2.size)⟩
              · have hfe' : (bits BinOp.and IntKind.u8 (fd b a) 3 != 3) = true := by
                  rw [hfe]
                  cases b <;> cases a <;> simp at hD ⊢
                have HM3 : Hid (Ck es es' v v' (k + 1) (b || decide (x.n < y.n)) (a || decide (y.n < x.n))) := ⟨HM.out.m.eq T hx hy he, pv_next hx hy he⟩
                have hco := fun W => cord_any x.n y.n W
                have fc := fd_c b a x.n y.n
                clear hfe hq hq' h h' hx hy T he hF hF' hD HM hsh
                generalize (b || decide (x.n < y.n)) = b3 at *
                generalize (a || decide (y.n < x.n)) = a3 at *
                go_wp2_with fail
                go_quiet (exact Calls.quiet_of_same (hsc _))
                go_wp2_with fail
                have hb3 : Below w.heap.size w (wr.drewN nq) := hb2.trans ((below_drewN _ nq).mono hb2.size)
                have x1' : (wr.drewN nq).cell? ⟨g, k * 3 + 1, none⟩ = some (.int .u64 x.n) := x1
                have y1' : (wr.drewN nq).cell? ⟨g', k * 3 + 1, none⟩ = some (.int .u64 y.n) := y1
                clear x0 y0 x1 y1 hsc
                generalize wr.drewN nq = wr2 at *
                go_quiet (exact Calls.quiet_of_same (hco _))
                go_wp2_with fail
                exact ⟨⟨k + 1, b3, a3, rfl, by go_num, by omega, HM3, hb3.trans ((below_drewN _ _).mono hb3.size)⟩, by simp [intOf]; omega⟩
            · have hsh' : (x.f == fcut y.f) = false := by simpa using hsh
              rw [hsh'] at hsc
              clear hfe hq hq' h h' hx hy T hF hF' x1 y1 hsh hsh'
              go_wp2_with fail
              go_quiet (exact Calls.quiet_of_same (hsc _))
              go_wp2_with fail
              go_meet
              case rel => exact ⟨k, b, a, rfl, rfl, hkn, HM, hb2.trans ((below_drewN _ nq).mono hb2.size)⟩
          · have hki : ¬ (k : Int) < (n : Int) := by omega
            have hkd : decide ((k : Int) < (n : Int)) = false := decide_eq_false hki
            clear hfe hq hq' h h' T hF hF'
            go_wp2_with fail
            go_quiet (fail)
            go_wp2_with fail
            go_meet
            case rel => exact ⟨k, b, a, rfl, rfl, hkn, HM, hb2.trans ((below_drewN _ nq).mono hb2.size)⟩
    case rest =>
      clear hcs hb1 hb0
      obtain ⟨k, b, a, rfl, rfl, hkn, HM, hb2⟩ := hcut
      have hq := h.below hb2
      have hq' := h'.below hb2
      have q0 := hq.p0
      have q0' := hq'.p0
      have hfe := fd_e b a
      have f1 := fd_1 b a
      have f2 := fd_2 b a
      by_cases hD : b = true ∧ a = true
      · obtain ⟨rfl, rfl⟩ := hD
        have hfe' : (bits BinOp.and IntKind.u8 (fd true true) 3 != 3) = false := hfe
        have HR : Hid (Fin v v' true true) := HM.out.m.fin T (.inr (.inr ⟨rfl, rfl⟩))
        clear hfe hq hq' h h' T hF hF' HM
        go_wp2_with fail
        refine bodyPost_ret (v := .tuple #[.bool true, .bool true]) (by simp [results, Ybaf.results17, go_sem]) rfl ⟨⟨true, true, rfl, HR.out⟩, hb2⟩
      · have hfe' : (bits BinOp.and IntKind.u8 (fd b a) 3 != 3) = true := by
          rw [hfe]
          cases b <;> cases a <;> simp at hD ⊢
        have hfr := from_any hq hq' T hF hF' HM.out.m HM.out.p
        clear hfe hD
        by_cases hk1 : k < es.length
        · have hk1i : (k : Int) < (es.length : Int) := by omega
          clear hq hq' h h' T hF hF' HM f1 f2
          go_wp2_with fail
          with_reducible refine hfr.mono ?_
          rintro r w3 ⟨⟨b4, a4, rfl, hR⟩, hb3⟩
          have HR : Hid (Fin v v' b4 a4) := hR
          have f1 := fd_1 b4 a4
          have f2 := fd_2 b4 a4
          clear hR
          go_wp2_with fail
          refine bodyPost_ret (v := .tuple #[.bool b4, .bool a4]) (by simp [results, Ybaf.results17, go_sem]) rfl ⟨⟨b4, a4, rfl, HR.out⟩, hb2.trans (hb3.mono hb2.size)⟩
        · have hk1i : ¬ (k : Int) < (es.length : Int) := by omega
          by_cases hk2 : k < es'.length
          · have hk2i : (k : Int) < (es'.length : Int) := by omega
            clear hq hq' h h' T hF hF' HM f1 f2
            go_wp2_with fail
            with_reducible refine hfr.mono ?_
            rintro r w3 ⟨⟨b4, a4, rfl, hR⟩, hb3⟩
            have HR : Hid (Fin v v' b4 a4) := hR
            have f1 := fd_1 b4 a4
            have f2 := fd_2 b4 a4
            clear hR
            go_wp2_with fail
            refine bodyPost_ret (v := .tuple #[.bool b4, .bool a4]) (by simp [results, Ybaf.results17, go_sem]) rfl ⟨⟨b4, a4, rfl, HR.out⟩, hb2.trans (hb3.mono hb2.size)⟩
          · have hk2i : ¬ (k : Int) < (es'.length : Int) := by omega
            have HR : Hid (Fin v v' b a) := by
              have h1 := HM.out.m.fin T (.inl (by omega))
              rw [decide_eq_false hk1, decide_eq_false hk2, Bool.or_false, Bool.or_false] at h1
              exact h1
            clear hq hq' h h' T hF hF' HM hfr
            go_wp2_with fail
            refine bodyPost_ret (v := .tuple #[.bool b, .bool a]) (by simp [results, Ybaf.results17, go_sem]) rfl ⟨⟨b, a, rfl, HR.out⟩, hb2⟩
end Go.Proofs.YbulkdlaoFmt
