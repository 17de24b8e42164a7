import Derived.Test.YbulkdlaoFmtOrd
import Derived.Test.YbulkdlaoFmtPl
namespace Go.Proofs.YbulkdlaoFmt
set_option linter.unusedVariables false
set_option linter.unusedSimpArgs false
open Go.RowKit
open Go.Sort (grow)

/-- What the step before tells of the next one. -/
structure LS (es es' : List En) (i j : Nat) (b a : Bool) (l : Int) : Prop where
  z : l = 0 → pvOf es i = pvOf es' j
  n : l < 0 → a = true
  p : 0 < l → b = true

/-- What the next step will find. -/
inductive Nx (es es' : List En) (v v' : Nat → Nat) (i j : Nat) (b a : Bool) : Int → Prop where
  | z (x y : En) (hx : es[i]? = some x) (hy : es'[j]? = some y) (he : x.k = y.k) : Nx es es' v v' i j b a 0
  | n (M : Mg es es' v v' (i + 1) j b true) : Nx es es' v v' i j b a (-1)
  | p (M : Mg es es' v v' i (j + 1) true a) : Nx es es' v v' i j b a 1

theorem sgn_cases (a b : Nat) : (a < b ∧ sgn a b = -1) ∨ (b < a ∧ sgn a b = 1) ∨ (a = b ∧ sgn a b = 0) := by
  unfold sgn
  rcases Nat.lt_trichotomy a b with h | h | h
  · left; simp [h]
  · right; right; simp [h]
  · right; left; rw [if_neg (by omega), if_pos h]; exact ⟨h, rfl⟩

theorem Nx.of {es es' : List En} {v v' : Nat → Nat} {i j : Nat} {b a : Bool} (T : Two es es' v v') (M : Mg es es' v v' i j b a) {x y : En} (hx : es[i]? = some x) (hy : es'[j]? = some y) : Nx es es' v v' i j b a (sgn (rk x.k) (rk y.k)) := by
  rcases sgn_cases (rk x.k) (rk y.k) with ⟨h, e⟩ | ⟨h, e⟩ | ⟨h, e⟩
  · rw [e]
    exact .n (M.pass T (Nat.lt_succ_self i) (List.getElem?_eq_some_iff.1 hx).1 hy (fun t f h1 h2 h3 => by
      have : t = i := by omega
      subst this
      rw [hx] at h3; cases h3; exact h))
  · rw [e]
    exact .p (M.passR T (Nat.lt_succ_self j) (List.getElem?_eq_some_iff.1 hy).1 hx (fun t f h1 h2 h3 => by
      have : t = j := by omega
      subst this
      rw [hy] at h3; cases h3; exact h))
  · rw [e]
    exact .z x y hx hy ((cmp_rk (T.k x (List.mem_of_getElem? hx)) (T.k' y (List.mem_of_getElem? hy))).2 h)

theorem Nx.swap {es es' : List En} {v v' : Nat → Nat} {i j : Nat} {b a : Bool} {c : Int} (h : Nx es es' v v' i j b a c) : Nx es' es v' v j i a b (-c) := by
  cases h with
  | z x y hx hy he => exact .z y x hy hx he.symm
  | n M => exact .p M.swap
  | p M => exact .n M.swap

/-- Behind a seek. -/
theorem Nx.seek {es es' : List En} {v v' : Nat → Nat} {i j p : Nat} {b : Bool} {o : Int} (T : Two es es' v v') (M : Mg es es' v v' i j b true) {x y : En} (hx : es[i]? = some x) (hy : es'[j]? = some y) (hlt : rk x.k < rk y.k) (hs : Sk es y.k (i + 1) p o) :
    Mg es es' v v' p j b true ∧ Nx es es' v v' p j b true o := by
  have hil := (List.getElem?_eq_some_iff.1 hx).1
  have hjl := (List.getElem?_eq_some_iff.1 hy).1
  have hlo := hs.lo
  have M2 : Mg es es' v v' p j b true := M.pass T (by omega) hs.hi hy (fun t f h1 h2 h3 => by
    rcases Nat.lt_or_ge i t with h4 | h4
    · exact hs.all t f (by omega) h2 h3
    · have : t = i := by omega
      subst this
      rw [hx] at h3; cases h3; exact hlt)
  refine ⟨M2, ?_⟩
  rcases Nat.lt_or_ge p es.length with hp | hp
  · obtain ⟨e, he⟩ : ∃ e, es[p]? = some e := ⟨_, List.getElem?_eq_getElem hp⟩
    rw [(hs.at_ e he).2]
    exact Nx.of T M2 he hy
  · have hpe : p = es.length := by have := hs.hi; omega
    rw [hs.fin hpe]
    subst hpe
    exact .p (M2.passE T hjl)

theorem Nx.seekR {es es' : List En} {v v' : Nat → Nat} {i j p : Nat} {a : Bool} {o : Int} (T : Two es es' v v') (M : Mg es es' v v' i j true a) {x y : En} (hx : es[i]? = some x) (hy : es'[j]? = some y) (hlt : rk y.k < rk x.k) (hs : Sk es' x.k (j + 1) p o) :
    Mg es es' v v' i p true a ∧ Nx es es' v v' i p true a (-o) :=
  let h := Nx.seek T.swap M.swap hy hx hlt hs
  ⟨h.1.swap, h.2.swap⟩

/-- What compareFrom hands back. -/
def Rt (v v' : Nat → Nat) (r : Ending) : Prop := ∃ b a : Bool, r = .returned (.int .u8 (fd b a)) ∧ Fin v v' b a

theorem Nx.out {es es' : List En} {v v' : Nat → Nat} {i j : Nat} {b a : Bool} {c : Int} (h : Nx es es' v v' i j b a c) :
    (c = 0 ∧ ∃ x y, es[i]? = some x ∧ es'[j]? = some y ∧ x.k = y.k) ∨ (c = -1 ∧ Mg es es' v v' (i + 1) j b true) ∨ (c = 1 ∧ Mg es es' v v' i (j + 1) true a) := by
  cases h with
  | z x y hx hy he => exact .inl ⟨rfl, x, y, hx, hy, he⟩
  | n M => exact .inr (.inl ⟨rfl, M⟩)
  | p M => exact .inr (.inr ⟨rfl, M⟩)

def Frm (es : List En) : Prop := ∀ (t : Nat) (x : En), es[t]? = some x → x.f = fo (pvOf es t) x.k

set_option maxRecDepth 20000 in
set_option maxHeartbeats 2000000 in
theorem from_any {w : World} {C g cap C' g' cap' : Nat} {ad ad' : Option Addr} {ids ids' : ByteArray} {es es' : List En} {v v' : Nat → Nat} (h : CW w C g cap ad ids es) (h' : CW w C' g' cap' ad' ids' es') (T : Two es es' v v') (hF : Frm es) (hF' : Frm es') {k : Nat} {b a : Bool} (M : Mg es es' v v' k k b a) (hpv : pvOf es k = pvOf es' k) :
    Calls Ybaf.prog 37 #[.pointer (some ⟨C, 0, none⟩), .pointer (some ⟨C', 0, none⟩), .int .i64 k, .int .u8 (fd b a), .int .u8 3] w fun r w' => Rt v v' r ∧ Below w.heap.size w w' := by
  have hl12 := h.len
  have hl12' := h'.len
  have hil0 := M.il
  have hjl0 := M.jl
  have HM : Hid (Mg es es' v v' k k b a) := M
  have HL : Hid (LS es es' k k b a 0) := ⟨fun _ => hpv, fun h => by omega, fun h => by omega⟩
  clear M hpv
  go_enter Ybaf.func37, Ybaf.ntmps37
  go_wp2_with fail
  go_loopw [3, 11, 12, 13] (fun fv iv jv lv wr => ∃ (i j : Nat) (l : Int) (b a : Bool), fv = .int .u8 (fd b a) ∧ iv = .int .i64 i ∧ jv = .int .i64 j ∧ lv = .int .i64 l ∧ i ≤ es.length ∧ j ≤ es'.length ∧ Hid (Mg es es' v v' i j b a) ∧ Hid (LS es es' i j b a l) ∧ Below w.heap.size w wr) (fun _ iv jv _ _ => 60 - (intOf iv).toNat - (intOf jv).toNat)
  case atStart => exact ⟨k, k, 0, b, a, rfl, rfl, rfl, rfl, hil0, hjl0, HM, HL, Below.refl _ _⟩
  case round =>
    clear HM HL hil0 hjl0
    obtain ⟨i, j, l, b, a, rfl, rfl, rfl, rfl, hil, hjl, HM, HL, hb⟩ := hrel
    have hc := h.below hb
    have hc' := h'.below hb
    have q0 := hc.p0
    have q0' := hc'.p0
    have hfe := fd_e b a
    have fa := fd_a b a
    have fb := fd_b b a
    have fab := fd_b b true
    have hMf := HM.out.fin T
    by_cases hA : i < es.length
    · have hAi : (i : Int) < (es.length : Int) := by omega
      by_cases hB : j < es'.length
      · have hBi : (j : Int) < (es'.length : Int) := by omega
        by_cases hD : b = true ∧ a = true
        · have HR0 : Fin v v' true true := by
            have := hMf (.inr (.inr hD))
            rw [hD.1, hD.2] at this
            simpa using this
          have HR : Hid (Fin v v' true true) := HR0
          clear HR0
          obtain ⟨rfl, rfl⟩ := hD
          have hfe' : (bits BinOp.and IntKind.u8 (fd true true) 3 != 3) = false := hfe
          clear hMf HM HL hfe h h' hc hc'
          go_wp2_with fail
          go_ret
          exact ⟨⟨true, true, rfl, HR.out⟩, hb⟩
        · have hfe' : (bits BinOp.and IntKind.u8 (fd b a) 3 != 3) = true := by
            rw [hfe]
            cases b <;> cases a <;> simp at hD ⊢
          clear hfe hMf
          obtain ⟨x, hx⟩ : ∃ x, es[i]? = some x := ⟨_, List.getElem?_eq_getElem hA⟩
          obtain ⟨y, hy⟩ : ∃ y, es'[j]? = some y := ⟨_, List.getElem?_eq_getElem hB⟩
          have hky := T.k' y (List.mem_of_getElem? hy)
          have hkx := T.k x (List.mem_of_getElem? hx)
          go_upto_block 2 with fail
          go_cut [11, 12, 14] from 17 to 128 (fun iv jv cv wc => ∃ (i2 j2 : Nat) (c : Int), iv = .int .i64 i2 ∧ jv = .int .i64 j2 ∧ cv = .int .i64 c ∧ i + j ≤ i2 + j2 ∧ i2 ≤ es.length ∧ j2 ≤ es'.length ∧ Hid (Mg es es' v v' i2 j2 b a) ∧ Hid (Nx es es' v v' i2 j2 b a c) ∧ Below w.heap.size w wc)
          case first =>
            have h1 := fun (W : World) (hb : Below w.heap.size w W) => cid_any (h.below hb) hx
            have h2 := fun (W : World) (hb : Below w.heap.size w W) => cid_any (h'.below hb) hy
            have hcc := fun W => cmp_any (nm x.k) (nm y.k) W
            rw [cid_cmp h hx hky] at hcc
            rcases Int.lt_trichotomy l 0 with hl | rfl | hl
            · obtain rfl : a = true := HL.out.n hl
              have hl0 : ¬ l = 0 := by omega
              have hl0b : (l == 0) = false := by simpa using hl0
              rcases sgn_cases (rk x.k) (rk y.k) with ⟨hlt, e⟩ | ⟨hlt, e⟩ | ⟨hlt, e⟩
              · rw [e] at hcc
                have hsk : ∀ W, Below w.heap.size w W → Calls Ybaf.prog 53 #[.pointer (some ⟨C, 0, none⟩), .int .i64 ((i : Int) + 1), .string (nm y.k)] W fun r w' => ∃ (p : Nat) (o : Int), r = .returned (.tuple #[.int .i64 p, .int .i64 o]) ∧ Sk es y.k (i + 1) p o ∧ Below W.heap.size W w' :=
                  fun W hb => seek_any (i := i + 1) (h.below hb) T.s (by omega) hky
                have HSk : Hid (∀ p o, Sk es y.k (i + 1) p o → Mg es es' v v' p j b true ∧ Nx es es' v v' p j b true o) := fun p o hs => Nx.seek T HM.out hx hy hlt hs
                clear hc hc' hF hF' HM HL e
                go_wp2_with fail
                with_reducible refine (h1 _ hb).mono ?_
                rintro r3 w3 ⟨rfl, hb3⟩
                have hb3' := hb.trans (hb3.mono hb.size)
                go_wp2_with fail
                with_reducible refine (h2 _ hb3').mono ?_
                rintro r4 w4 ⟨rfl, hb4⟩
                have hb4' := hb3'.trans (hb4.mono hb3'.size)
                go_wp2_with fail
                with_reducible refine (hcc _).mono ?_
                rintro r5 w5 ⟨rfl, rfl⟩
                go_wp2_with fail
                with_reducible refine (h2 _ hb4').mono ?_
                rintro r6 w6 ⟨rfl, hb6⟩
                have hb6' := hb4'.trans (hb6.mono hb4'.size)
                go_wp2_with fail
                with_reducible refine (hsk _ hb6').mono ?_
                rintro r7 w7 ⟨p, o, rfl, hs, hb7⟩
                have hb7' := hb6'.trans (hb7.mono hb6'.size)
                have HS := HSk.out p o hs
                have hlo := hs.lo
                have HS1 : Hid (Mg es es' v v' p j b true) := HS.1
                have HS2 : Hid (Nx es es' v v' p j b true o) := HS.2
                have hpl := HS.1.il
                clear HS hs HSk
                go_wp2_with fail
                go_meet
                case rel => exact ⟨p, j, o, rfl, rfl, rfl, by omega, hpl, hjl, HS1, HS2, hb7'⟩
              · have HN : Hid (Nx es es' v v' i j b true 1) := by rw [← e]; exact Nx.of T HM.out hx hy
                rw [e] at hcc
                clear hc hc' hF hF' HL e
                go_wp2_with fail
                with_reducible refine (h1 _ hb).mono ?_
                rintro r3 w3 ⟨rfl, hb3⟩
                have hb3' := hb.trans (hb3.mono hb.size)
                go_wp2_with fail
                with_reducible refine (h2 _ hb3').mono ?_
                rintro r4 w4 ⟨rfl, hb4⟩
                have hb4' := hb3'.trans (hb4.mono hb3'.size)
                go_wp2_with fail
                with_reducible refine (hcc _).mono ?_
                rintro r5 w5 ⟨rfl, rfl⟩
                go_wp2_with fail
                go_meet
                case rel => exact ⟨i, j, 1, rfl, rfl, rfl, by omega, hil, hjl, HM, HN, hb4'⟩
              · have HN : Hid (Nx es es' v v' i j b true 0) := by rw [← e]; exact Nx.of T HM.out hx hy
                rw [e] at hcc
                clear hc hc' hF hF' HL e
                go_wp2_with fail
                with_reducible refine (h1 _ hb).mono ?_
                rintro r3 w3 ⟨rfl, hb3⟩
                have hb3' := hb.trans (hb3.mono hb.size)
                go_wp2_with fail
                with_reducible refine (h2 _ hb3').mono ?_
                rintro r4 w4 ⟨rfl, hb4⟩
                have hb4' := hb3'.trans (hb4.mono hb3'.size)
                go_wp2_with fail
                with_reducible refine (hcc _).mono ?_
                rintro r5 w5 ⟨rfl, rfl⟩
                go_wp2_with fail
                go_meet
                case rel => exact ⟨i, j, 0, rfl, rfl, rfl, by omega, hil, hjl, HM, HN, hb4'⟩
            · have ho := order_any hc hc' hx hy (pvOf_lt hc.ok i) (hF i x hx) (by rw [HL.out.z rfl]; exact hF' j y hy)
              have HN : Hid (Nx es es' v v' i j b a (sgn (rk x.k) (rk y.k))) := Nx.of T HM.out hx hy
              clear hc hc' hF hF' HL hcc h1 h2
              generalize sgn (rk x.k) (rk y.k) = sg at *
              go_wp2_with fail
              with_reducible refine ho.mono ?_
              rintro r2 w2 ⟨rfl, hb2⟩
              have hb2' := hb.trans (hb2.mono hb.size)
              go_wp2_with fail
              go_meet
              case rel => exact ⟨i, j, sg, rfl, rfl, rfl, Nat.le_refl _, hil, hjl, HM, HN, hb2'⟩
            · obtain rfl : b = true := HL.out.p hl
              have hl0 : ¬ l = 0 := by omega
              have hl0b : (l == 0) = false := by simpa using hl0
              have hl1 : ¬ l < 0 := by omega
              rcases sgn_cases (rk x.k) (rk y.k) with ⟨hlt, e⟩ | ⟨hlt, e⟩ | ⟨hlt, e⟩
              · have HN : Hid (Nx es es' v v' i j true a (-1)) := by rw [← e]; exact Nx.of T HM.out hx hy
                rw [e] at hcc
                clear hc hc' hF hF' HL e
                go_wp2_with fail
                with_reducible refine (h1 _ hb).mono ?_
                rintro r3 w3 ⟨rfl, hb3⟩
                have hb3' := hb.trans (hb3.mono hb.size)
                go_wp2_with fail
                with_reducible refine (h2 _ hb3').mono ?_
                rintro r4 w4 ⟨rfl, hb4⟩
                have hb4' := hb3'.trans (hb4.mono hb3'.size)
                go_wp2_with fail
                with_reducible refine (hcc _).mono ?_
                rintro r5 w5 ⟨rfl, rfl⟩
                go_wp2_with fail
                go_meet
                case rel => exact ⟨i, j, -1, rfl, rfl, rfl, by omega, hil, hjl, HM, HN, hb4'⟩
              · rw [e] at hcc
                have hsk : ∀ W, Below w.heap.size w W → Calls Ybaf.prog 53 #[.pointer (some ⟨C', 0, none⟩), .int .i64 ((j : Int) + 1), .string (nm x.k)] W fun r w' => ∃ (p : Nat) (o : Int), r = .returned (.tuple #[.int .i64 p, .int .i64 o]) ∧ Sk es' x.k (j + 1) p o ∧ Below W.heap.size W w' :=
                  fun W hb => seek_any (i := j + 1) (h'.below hb) T.s' (by omega) hkx
                have HSk : Hid (∀ p o, Sk es' x.k (j + 1) p o → Mg es es' v v' i p true a ∧ Nx es es' v v' i p true a (-o)) := fun p o hs => Nx.seekR T HM.out hx hy hlt hs
                clear hc hc' hF hF' HM HL e
                go_wp2_with fail
                with_reducible refine (h1 _ hb).mono ?_
                rintro r3 w3 ⟨rfl, hb3⟩
                have hb3' := hb.trans (hb3.mono hb.size)
                go_wp2_with fail
                with_reducible refine (h2 _ hb3').mono ?_
                rintro r4 w4 ⟨rfl, hb4⟩
                have hb4' := hb3'.trans (hb4.mono hb3'.size)
                go_wp2_with fail
                with_reducible refine (hcc _).mono ?_
                rintro r5 w5 ⟨rfl, rfl⟩
                go_wp2_with fail
                with_reducible refine (h1 _ hb4').mono ?_
                rintro r6 w6 ⟨rfl, hb6⟩
                have hb6' := hb4'.trans (hb6.mono hb4'.size)
                go_wp2_with fail
                with_reducible refine (hsk _ hb6').mono ?_
                rintro r7 w7 ⟨p, o, rfl, hs, hb7⟩
                have hb7' := hb6'.trans (hb7.mono hb6'.size)
                have HS := HSk.out p o hs
                have hlo := hs.lo
                have HS1 : Hid (Mg es es' v v' i p true a) := HS.1
                have HS2 : Hid (Nx es es' v v' i p true a (-o)) := HS.2
                have hpl := HS.1.jl
                have hov : -2 < o ∧ o < 2 := by
                  have h9 := HS.2
                  generalize hO : -o = O at h9
                  cases h9 <;> omega
                clear HS hs HSk
                go_wp2_with fail
                go_meet
                case rel => exact ⟨i, p, -o, rfl, rfl, by go_num, by omega, hil, hpl, HS1, HS2, hb7'⟩
              · have HN : Hid (Nx es es' v v' i j true a 0) := by rw [← e]; exact Nx.of T HM.out hx hy
                rw [e] at hcc
                clear hc hc' hF hF' HL e
                go_wp2_with fail
                with_reducible refine (h1 _ hb).mono ?_
                rintro r3 w3 ⟨rfl, hb3⟩
                have hb3' := hb.trans (hb3.mono hb.size)
                go_wp2_with fail
                with_reducible refine (h2 _ hb3').mono ?_
                rintro r4 w4 ⟨rfl, hb4⟩
                have hb4' := hb3'.trans (hb4.mono hb3'.size)
                go_wp2_with fail
                with_reducible refine (hcc _).mono ?_
                rintro r5 w5 ⟨rfl, rfl⟩
                go_wp2_with fail
                go_meet
                case rel => exact ⟨i, j, 0, rfl, rfl, rfl, by omega, hil, hjl, HM, HN, hb4'⟩
          case rest =>
            obtain ⟨i2, j2, c, rfl, rfl, rfl, hij, hi2, hj2, HM2, HN, hb2⟩ := hcut
            have hd := h.below hb2
            have hd' := h'.below hb2
            clear hc hc' hx hy hkx hky HM HL
            rcases HN.out.out with ⟨rfl, x, y, hx, hy, he⟩ | ⟨rfl, M3⟩ | ⟨rfl, M3⟩
            · obtain rfl := hd.form (by omega)
              obtain rfl := hd'.form (by omega)
              have hi3 := (List.getElem?_eq_some_iff.1 hx).1
              have hj3 := (List.getElem?_eq_some_iff.1 hy).1
              have hi3i : (i2 : Int) < (es.length : Int) := by omega
              have hj3i : (j2 : Int) < (es'.length : Int) := by omega
              have r0 := hd.p0
              have r0' := hd'.p0
              have r1 := hd.c1 i2 x hx
              have r1' := hd'.c1 j2 y hy
              have HM3 : Hid (Mg es es' v v' (i2 + 1) (j2 + 1) (b || decide (x.n < y.n)) (a || decide (y.n < x.n))) := HM2.out.eq T hx hy he
              have HL3 : Hid (LS es es' (i2 + 1) (j2 + 1) (b || decide (x.n < y.n)) (a || decide (y.n < x.n)) 0) := ⟨fun _ => pv_next hx hy he, fun h => by omega, fun h => by omega⟩
              have hco := fun W => cord_any x.n y.n W
              have fc := fd_c b a x.n y.n
              clear hd hd' HN HM2 hx hy he h h' q0 q0'
              generalize (b || decide (x.n < y.n)) = b3 at *
              generalize (a || decide (y.n < x.n)) = a3 at *
              go_wp2_with fail
              go_quiet (exact Calls.quiet_of_same (hco _))
              go_wp2_with fail
              exact ⟨⟨i2 + 1, j2 + 1, 0, b3, a3, rfl, by go_num, by go_num, rfl, by omega, by omega, HM3, HL3, hb2.trans ((below_drewN _ nq).mono hb2.size)⟩, by simp [intOf]; omega⟩
            · have HM3 : Hid (Mg es es' v v' (i2 + 1) j2 b true) := M3
              have hi3 := M3.il
              have HL3 : Hid (LS es es' (i2 + 1) j2 b true (-1)) := ⟨fun h => by omega, fun _ => rfl, fun h => by omega⟩
              clear hd hd' HN HM2 h h' q0 q0' M3
              go_wp2_with fail
              exact ⟨⟨i2 + 1, j2, -1, b, true, rfl, by go_num, rfl, rfl, by omega, by omega, HM3, HL3, hb2⟩, by simp [intOf]; omega⟩
            · have HM3 : Hid (Mg es es' v v' i2 (j2 + 1) true a) := M3
              have hj3 := M3.jl
              have HL3 : Hid (LS es es' i2 (j2 + 1) true a 1) := ⟨fun h => by omega, fun h => by omega, fun _ => rfl⟩
              clear hd hd' HN HM2 h h' q0 q0' M3
              go_wp2_with fail
              exact ⟨⟨i2, j2 + 1, 1, true, a, rfl, rfl, by go_num, rfl, by omega, by omega, HM3, HL3, hb2⟩, by simp [intOf]; omega⟩
      · have HR0 : Fin v v' b true := by
          have := hMf (.inr (.inl (by omega)))
          rw [decide_eq_false hB, decide_eq_true hA] at this
          simpa using this
        have HR : Hid (Fin v v' b true) := HR0
        clear HR0
        have hBi : ¬ (j : Int) < (es'.length : Int) := by omega
        clear hMf HM HL hfe h h' hc hc'
        go_wp2_with fail
        go_ret
        exact ⟨⟨b, true, rfl, HR.out⟩, hb⟩
    · have hAi : ¬ (i : Int) < (es.length : Int) := by omega
      by_cases hB : j < es'.length
      · have hBi : (j : Int) < (es'.length : Int) := by omega
        have HR0 : Fin v v' true a := by
          have := hMf (.inl (by omega))
          rw [decide_eq_true hB, decide_eq_false hA] at this
          simpa using this
        have HR : Hid (Fin v v' true a) := HR0
        clear HR0
        clear hMf HM HL hfe h h' hc hc'
        go_wp2_with fail
        go_ret
        exact ⟨⟨true, a, rfl, HR.out⟩, hb⟩
      · have hBi : ¬ (j : Int) < (es'.length : Int) := by omega
        have HR0 : Fin v v' b a := by
          have := hMf (.inl (by omega))
          rw [decide_eq_false hB, decide_eq_false hA] at this
          simpa using this
        have HR : Hid (Fin v v' b a) := HR0
        clear HR0
        clear hMf HM HL hfe h h' hc hc'
        go_wp2_with fail
        go_ret
        exact ⟨⟨b, a, rfl, HR.out⟩, hb⟩
end Go.Proofs.YbulkdlaoFmt
