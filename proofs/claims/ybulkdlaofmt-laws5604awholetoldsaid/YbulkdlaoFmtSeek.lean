import Derived.Test.YbulkdlaoFmtSort2
namespace Go.Proofs.YbulkdlaoFmt
set_option linter.unusedVariables false
set_option linter.unusedSimpArgs false
open Go.RowKit
open Go.Sort (grow)

def Srt (es : List En) : Prop := ∀ (i j : Nat) (x y : En), i < j → es[i]? = some x → es[j]? = some y → rk x.k < rk y.k

/-- What seek hands back. -/
structure Sk (es : List En) (y i p : Nat) (r : Int) : Prop where
  lo : i ≤ p
  hi : p ≤ es.length
  all : ∀ (t : Nat) (e : En), i ≤ t → t < p → es[t]? = some e → rk e.k < rk y
  at_ : ∀ e, es[p]? = some e → rk y ≤ rk e.k ∧ r = sgn (rk e.k) (rk y)
  fin : p = es.length → r = 1

/-- The state of seek's loops. -/
structure Sl (es : List En) (y i lo hi : Nat) (r : Int) : Prop where
  a : i ≤ lo
  b : lo ≤ hi
  c : hi ≤ es.length
  all : ∀ (t : Nat) (e : En), i ≤ t → t < lo → es[t]? = some e → rk e.k < rk y
  at_ : ∀ e, es[hi]? = some e → rk y ≤ rk e.k ∧ r = sgn (rk e.k) (rk y)
  fin : hi = es.length → r = 1

theorem cid_cmp {w : World} {C g cap : Nat} {a : Option Addr} {ids : ByteArray} {es : List En} (h : CW w C g cap a ids es) {i y : Nat} {e : En} (he : es[i]? = some e) (hy : y < 12) : cmpB (nm e.k) (nm y) = sgn (rk e.k) (rk y) :=
  (cmp_rk (h.ok e (List.mem_of_getElem? he)).k hy).1

theorem sgn_ge {a b : Nat} : 0 ≤ sgn a b ↔ b ≤ a := by
  unfold sgn
  split
  · simp; omega
  · split <;> simp <;> omega

set_option maxRecDepth 20000 in
set_option maxHeartbeats 2000000 in
theorem seek_any {w : World} {C g cap : Nat} {a : Option Addr} {ids : ByteArray} {es : List En} (h : CW w C g cap a ids es) (hS : Srt es) {i y : Nat} (hi : i ≤ es.length) (hy : y < 12) :
    Calls Ybaf.prog 53 #[.pointer (some ⟨C, 0, none⟩), .int .i64 i, .string (nm y)] w fun r w' => ∃ (p : Nat) (o : Int), r = .returned (.tuple #[.int .i64 p, .int .i64 o]) ∧ Sk es y i p o ∧ Below w.heap.size w w' := by
  have q0 := h.p0
  have hl12 := h.len
  go_enter Ybaf.func53, Ybaf.ntmps53
  go_wp2_with fail
  refine region_still (by kernel_rfl) ?_
  repeat still_step
  refine wpStill_nil ?_
  have hd : Below w.heap.size w w.drew := (Below.refl _ _).drew
  generalize w.drew = w0 at *
  go_upto_block 0 with fail
  go_cut [1, 7, 8, 9] from 10 to 38 (fun _ rv lv hv wc => ∃ (lo hi' : Nat) (r : Int), rv = .int .i64 r ∧ lv = .int .i64 lo ∧ hv = .int .i64 hi' ∧ Hid (Sl es y i lo hi' r) ∧ Below w.heap.size w wc)
  case first =>
   go_wp2_with fail
   go_loopw [1, 7, 8, 9, 10] (fun iv rv lv hv sv wr => ∃ (m lo hi' st : Nat) (r : Int), iv = .int .i64 m ∧ rv = .int .i64 r ∧ lv = .int .i64 lo ∧ hv = .int .i64 hi' ∧ sv = .int .i64 st ∧ hi' = es.length ∧ r = 1 ∧ st = m - i + 1 ∧ i ≤ m ∧ m ≤ 30 ∧ lo ≤ m ∧ Below w.heap.size w wr ∧ Hid (Sl es y i lo hi' r)) (fun iv _ _ _ _ _ => 60 - (intOf iv).toNat)
   case atStart => exact ⟨i, i, es.length, 1, 1, rfl, rfl, rfl, rfl, rfl, rfl, rfl, by omega, Nat.le_refl _, by omega, Nat.le_refl _, hd, ⟨Nat.le_refl _, hi, Nat.le_refl _, fun t e h1 h2 => by omega, fun e he => by simp at he, fun _ => rfl⟩⟩
   case round =>
     obtain ⟨m, lo, hi', st, r, rfl, rfl, rfl, rfl, rfl, hh, hr1, hst, him, hm30, hlm, hb, hSl⟩ := hrel
     have hc := h.below hb
     by_cases hmh : m < hi'
     · have hmi : (m : Int) < (hi' : Int) := by omega
       obtain ⟨e, he⟩ : ∃ e, es[m]? = some e := ⟨_, List.getElem?_eq_getElem (by omega)⟩
       have hcid := cid_any hc he
       have hce := cid_cmp hc he hy
       have hcc := fun W => cmp_any (nm e.k) (nm y) W
       rw [hce] at hcc
       go_wp2_with fail
       with_reducible refine hcid.mono ?_
       rintro r2 w2 ⟨rfl, hb2⟩
       have hb3 : Below w.heap.size w w2 := hb.trans (hb2.mono hb.size)
       go_wp2_with fail
       with_reducible refine (hcc _).mono ?_
       rintro r3 w3 ⟨rfl, rfl⟩
       by_cases hlt : rk e.k < rk y
       · have hsg : ¬ (0 : Int) ≤ sgn (rk e.k) (rk y) := by rw [sgn_ge]; omega
         have hs2 : Hid (Sl es y i (m + 1) hi' r) := ⟨by omega, by omega, hSl.out.c, fun t x h1 h2 hx => by
           rcases Nat.lt_or_ge t m with h3 | h3
           · exact Nat.lt_trans (hS t m x e h3 hx he) hlt
           · have : t = m := by omega
             subst this
             rw [he] at hx; cases hx; exact hlt, hSl.out.at_, hSl.out.fin⟩
         generalize sgn (rk e.k) (rk y) = sg at *
         subst hst
         go_wp2_with fail
         exact ⟨⟨m + (m - i + 1), m + 1, hi', 2 * (m - i + 1), r, by go_num, by rw [hr1], by go_num, by rw [hh], by go_num, hh, hr1, by omega, by omega, by omega, by omega, hb3, hs2⟩, by simp [intOf]; omega⟩
       · have hsg : (0 : Int) ≤ sgn (rk e.k) (rk y) := by rw [sgn_ge]; omega
         have hs2 : Hid (Sl es y i lo m (sgn (rk e.k) (rk y))) := ⟨hSl.out.a, hlm, by omega, hSl.out.all, fun x hx => by rw [he] at hx; cases hx; exact ⟨by omega, rfl⟩, fun h1 => by omega⟩
         generalize sgn (rk e.k) (rk y) = sg at *
         go_wp2_with fail
         go_meet
         case rel => exact ⟨lo, m, sg, rfl, rfl, rfl, hs2, hb3⟩
     · have hmi : ¬ (m : Int) < (hi' : Int) := by omega
       go_wp2_with fail
       go_meet
       case rel => exact ⟨lo, hi', r, by rw [hr1], rfl, by rw [hh], hSl, hb⟩
  case rest =>
    obtain ⟨lo, hi', r, rfl, rfl, rfl, hSl, hb⟩ := hcut
    go_wp2_with fail
    go_loopw [7, 8, 9] (fun rv lv hv wr => ∃ (lo hi' : Nat) (r : Int), rv = .int .i64 r ∧ lv = .int .i64 lo ∧ hv = .int .i64 hi' ∧ lo ≤ hi' ∧ hi' ≤ es.length ∧ Hid (Sl es y i lo hi' r) ∧ Below w.heap.size w wr) (fun _ lv hv _ => (intOf hv).toNat - (intOf lv).toNat)
    case atStart => exact ⟨lo, hi', r, rfl, rfl, rfl, hSl.out.b, hSl.out.c, hSl, hb⟩
    case round =>
      clear hSl hb
      obtain ⟨lo, hi', r, rfl, rfl, rfl, hlh, hhe, hSl, hb⟩ := hrel
      have hc := h.below hb
      by_cases hlt0 : lo < hi'
      · have hli : (lo : Int) < (hi' : Int) := by omega
        obtain ⟨m, hm⟩ : ∃ m, m = (lo + hi') / 2 := ⟨_, rfl⟩
        have hmm : ((lo : Int) + (hi' : Int)) / 2 = (m : Int) := by omega
        have hm1 : lo ≤ m := by omega
        have hm2 : m < hi' := by omega
        clear hm
        obtain ⟨e, he⟩ : ∃ e, es[m]? = some e := ⟨_, List.getElem?_eq_getElem (by omega)⟩
        have hcid := cid_any hc he
        have hce := cid_cmp hc he hy
        have hcc := fun W => cmp_any (nm e.k) (nm y) W
        rw [hce] at hcc
        go_wp2_with fail
        with_reducible refine hcid.mono ?_
        rintro r2 w2 ⟨rfl, hb2⟩
        have hb3 : Below w.heap.size w w2 := hb.trans (hb2.mono hb.size)
        go_wp2_with fail
        with_reducible refine (hcc _).mono ?_
        rintro r3 w3 ⟨rfl, rfl⟩
        by_cases hlt : rk e.k < rk y
        · have hsg : ¬ (0 : Int) ≤ sgn (rk e.k) (rk y) := by rw [sgn_ge]; omega
          have hs2 : Hid (Sl es y i (m + 1) hi' r) := ⟨by have := hSl.out.a; omega, by omega, hSl.out.c, fun t x h1 h2 hx => by
            rcases Nat.lt_or_ge t m with h3 | h3
            · exact Nat.lt_trans (hS t m x e h3 hx he) hlt
            · have : t = m := by omega
              subst this
              rw [he] at hx; cases hx; exact hlt, hSl.out.at_, hSl.out.fin⟩
          generalize sgn (rk e.k) (rk y) = sg at *
          go_wp2_with fail
          exact ⟨⟨m + 1, hi', r, rfl, by go_num, rfl, by omega, hhe, hs2, hb3⟩, by simp [intOf]; omega⟩
        · have hsg : (0 : Int) ≤ sgn (rk e.k) (rk y) := by rw [sgn_ge]; omega
          have hs2 : Hid (Sl es y i lo m (sgn (rk e.k) (rk y))) := ⟨hSl.out.a, hm1, by omega, hSl.out.all, fun x hx => by rw [he] at hx; cases hx; exact ⟨by omega, rfl⟩, fun h1 => by omega⟩
          generalize sgn (rk e.k) (rk y) = sg at *
          go_wp2_with fail
          exact ⟨⟨lo, m, sg, rfl, rfl, rfl, by omega, by omega, hs2, hb3⟩, by simp [intOf]; omega⟩
      · have hli : ¬ (lo : Int) < (hi' : Int) := by omega
        go_wp2_with fail
        refine bodyPost_ret (v := .tuple #[.int .i64 hi', .int .i64 r]) (by simp [results, Ybaf.results53, go_sem]) rfl ⟨hi', r, rfl, ⟨by have := hSl.out.a; omega, hhe, fun t e h1 h2 he => hSl.out.all t e h1 (by omega) he, hSl.out.at_, hSl.out.fin⟩, hb⟩
end Go.Proofs.YbulkdlaoFmt
