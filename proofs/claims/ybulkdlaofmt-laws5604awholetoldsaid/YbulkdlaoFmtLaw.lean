import Derived.Test.YbulkdlaoFmtCmp7
import Derived.Test.YbulkdlaoFmtEqu
import Derived.Test.YbulkdlaoFmtBld
namespace Go.Proofs.YbulkdlaoFmt
set_option linter.unusedVariables false
set_option linter.unusedSimpArgs false
open Go.RowKit

theorem Inp.below {w w' : World} {a0 : Option Addr} {n0 b0 o0 : Nat} {s : Nat → Nat} {a1 : Option Addr} {n1 b1 o1 : Nat} {c : Nat → Nat} (I : Inp w a0 n0 b0 o0 s a1 n1 b1 o1 c) (hb : Below w.heap.size w w') : Inp w' a0 n0 b0 o0 s a1 n1 b1 o1 c :=
  ⟨I.hA0, fun j hj => (hb.cell (block_lt_of_cell (I.h0 j hj))).trans (I.h0 j hj), I.hA1, fun j hj => (hb.cell (block_lt_of_cell (I.h1 j hj))).trans (I.h1 j hj), I.hb0, I.hb1, I.hs⟩

theorem CLK.below {w w' : World} {a : Option Addr} {g : Nat} {ids : ByteArray} {es : List En} {val : Nat → Nat} (h : CLK w a g ids es val) (hb : Below w.heap.size w w') : CLK w' a g ids es val where
  form := h.form
  row := by
    rcases Nat.eq_zero_or_pos es.length with h0 | h0
    · have := List.length_eq_zero_iff.1 h0
      subst this
      exact ⟨fun i e he => by simp at he, fun i e he => by simp at he, fun i e he => by simp at he, fun o ho => by simp at ho⟩
    · exact h.row.block (hb.block g (h.row.lt h0))
  ok := h.ok
  len := h.len
  srt := h.srt
  frm := h.frm
  mem := h.mem
  isz := h.isz
  shp := h.shp

theorem CLK.cw {w : World} {a : Option Addr} {g : Nat} {ids : ByteArray} {es : List En} {val : Nat → Nat} (h : CLK w a g ids es val) {C cap : Nat} (p0 : w.cell? ⟨C, 0, none⟩ = some (.slice a es.length cap)) (p1 : w.cell? ⟨C, 1, none⟩ = some (.string ids)) : CW w C g cap a ids es :=
  ⟨p0, p1, h.form, h.row.c0, h.row.c1, h.row.c2, h.ok, h.isz, h.len⟩

theorem two_of {w w' : World} {a a' : Option Addr} {g g' : Nat} {ids ids' : ByteArray} {es es' : List En} {v v' : Nat → Nat} (h : CLK w a g ids es v) (h' : CLK w' a' g' ids' es' v') : Two es es' v v' where
  s := h.srt
  s' := h'.srt
  k := fun e he => (h.ok e he).k
  k' := fun e he => (h'.ok e he).k
  m := fun e he => (h.mem e.k (h.ok e he).k e.n).1 ⟨e, he, rfl, rfl⟩
  m' := fun e he => (h'.mem e.k (h'.ok e he).k e.n).1 ⟨e, he, rfl, rfl⟩
  z := fun k hk h0 => by
    obtain ⟨e, he, h1, _⟩ := (h.mem k hk (v k)).2 ⟨h0, rfl⟩
    exact ⟨e, he, h1⟩
  z' := fun k hk h0 => by
    obtain ⟨e, he, h1, _⟩ := (h'.mem k hk (v' k)).2 ⟨h0, rfl⟩
    exact ⟨e, he, h1⟩

theorem Fin.uniq {v v' : Nat → Nat} {b a b' a' : Bool} (h : Fin v v' b a) (h' : Fin v v' b' a') : b = b' ∧ a = a' :=
  ⟨Bool.eq_iff_iff.2 (h.1.trans h'.1.symm), Bool.eq_iff_iff.2 (h.2.trans h'.2.symm)⟩

theorem Fin.self {v : Nat → Nat} {b a : Bool} (h : Fin v v b a) : b = false ∧ a = false := by
  have h0 : ¬ Bh v v := fun ⟨k, _, h⟩ => by omega
  refine ⟨?_, ?_⟩
  · cases b with
    | false => rfl
    | true => exact absurd (h.1.1 rfl) h0
  · cases a with
    | false => rfl
    | true => exact absurd (h.2.1 rfl) h0

/-- The law's own loop over the twelve names. -/
def Lp (v v' : Nat → Nat) (k : Nat) (bv av : Value) : Prop := ∃ b a : Bool, bv = .bool b ∧ av = .bool a ∧ (b = true ↔ ∃ t, t < k ∧ v t < v' t) ∧ (a = true ↔ ∃ t, t < k ∧ v' t < v t)

theorem Lp.zero (v v' : Nat → Nat) : Lp v v' 0 (.bool false) (.bool false) :=
  ⟨false, false, rfl, rfl, ⟨(fun h => by cases h), (fun ⟨t, h, _⟩ => by omega)⟩, ⟨(fun h => by cases h), (fun ⟨t, h, _⟩ => by omega)⟩⟩

theorem up_step {p : Nat → Prop} {k : Nat} {b : Bool} (h : b = true ↔ ∃ t, t < k ∧ p t) (hp : ¬ p k) : b = true ↔ ∃ t, t < k + 1 ∧ p t := by
  rw [h]
  constructor
  · rintro ⟨t, h1, h2⟩
    exact ⟨t, by omega, h2⟩
  · rintro ⟨t, h1, h2⟩
    refine ⟨t, ?_, h2⟩
    rcases Nat.lt_or_ge t k with h3 | h3
    · exact h3
    · have : t = k := by omega
      subst this
      exact absurd h2 hp

theorem up_hit {p : Nat → Prop} {k : Nat} (hp : p k) : true = true ↔ ∃ t, t < k + 1 ∧ p t := ⟨fun _ => ⟨k, by omega, hp⟩, fun _ => rfl⟩

theorem Lp.fin {v v' : Nat → Nat} {bv av : Value} (h : Lp v v' 12 bv av) : ∃ b a : Bool, bv = .bool b ∧ av = .bool a ∧ Fin v v' b a := by
  obtain ⟨b, a, h1, h2, h3, h4⟩ := h
  exact ⟨b, a, h1, h2, h3, h4⟩

set_option maxRecDepth 20000 in
set_option maxHeartbeats 400000 in
theorem law_big (a0 a1 a2 a3 : Option Addr) (n0 n1 n2 n3 c0 c1 c2 c3 : Nat) (w : World) (hb : 1048576 < wrap64 (wrap64 (wrap64 ((n0 : Int) + (n2 : Int)) + (n1 : Int)) + (n3 : Int))) :
    Calls Ybaf.prog 3 #[.slice a0 n0 c0, .slice a1 n1 c1, .slice a2 n2 c2, .slice a3 n3 c3] w fun r w' => r = .returned (.bool true) ∧ Below w.heap.size w w' := by
  go_enter Ybaf.func3, Ybaf.ntmps3
  go_wp2_with fail
  go_ret
  exact ⟨rfl, Below.refl _ _⟩

/-- The law's own clock and table, laid. -/
def wlay (w : World) (a : Option Addr) (n cap : Nat) (ids : ByteArray) (v : Nat → Nat) : World :=
  (w.alloc (.cells #[.slice a n cap, .string ids] 26)).alloc (.cells #[.int .u64 (v 0), .int .u64 (v 1), .int .u64 (v 2), .int .u64 (v 3), .int .u64 (v 4), .int .u64 (v 5), .int .u64 (v 6), .int .u64 (v 7), .int .u64 (v 8), .int .u64 (v 9), .int .u64 (v 10), .int .u64 (v 11)] 28)

structure BX (w : World) (C V : Nat) (a : Option Addr) (g cap : Nat) (ids : ByteArray) (es : List En) (v : Nat → Nat) : Prop where
  k : CLK w a g ids es v
  c : w.heap[C]? = some (.cells #[.slice a es.length cap, .string ids] 26)
  u : w.heap[V]? = some (.cells #[.int .u64 (v 0), .int .u64 (v 1), .int .u64 (v 2), .int .u64 (v 3), .int .u64 (v 4), .int .u64 (v 5), .int .u64 (v 6), .int .u64 (v 7), .int .u64 (v 8), .int .u64 (v 9), .int .u64 (v 10), .int .u64 (v 11)] 28)
  cp : es.length ≤ cap

theorem wlay_below (w : World) (a : Option Addr) (n cap : Nat) (ids : ByteArray) (v : Nat → Nat) : Below w.heap.size w (wlay w a n cap ids v) := by
  unfold wlay
  exact ((Below.refl _ w).alloc (Nat.le_refl _) _).alloc (by simp) _

theorem BX.made {w : World} {a : Option Addr} {g cap : Nat} {ids : ByteArray} {es : List En} {v : Nat → Nat} (h : CLK w a g ids es v) (hcp : es.length ≤ cap) : BX (wlay w a es.length cap ids v) w.heap.size (w.heap.size + 1) a g cap ids es v where
  k := h.below (wlay_below w a es.length cap ids v)
  c := by
    unfold wlay
    exact (((Below.refl _ (w.alloc (.cells #[.slice a es.length cap, .string ids] 26))).alloc (Nat.le_refl _) _).block w.heap.size (by simp)).trans (heap_alloc_new w _)
  u := by
    unfold wlay
    have := heap_alloc_new (w.alloc (.cells #[.slice a es.length cap, .string ids] 26)) (.cells #[.int .u64 (v 0), .int .u64 (v 1), .int .u64 (v 2), .int .u64 (v 3), .int .u64 (v 4), .int .u64 (v 5), .int .u64 (v 6), .int .u64 (v 7), .int .u64 (v 8), .int .u64 (v 9), .int .u64 (v 10), .int .u64 (v 11)] 28)
    simpa using this
  cp := hcp

theorem BX.below {w w' : World} {C V : Nat} {a : Option Addr} {g cap : Nat} {ids : ByteArray} {es : List En} {v : Nat → Nat} (h : BX w C V a g cap ids es v) (hb : Below w.heap.size w w') : BX w' C V a g cap ids es v :=
  ⟨h.k.below hb, (hb.block C (N2lt h.c)).trans h.c, (hb.block V (N2lt h.u)).trans h.u, h.cp⟩

theorem BX.p0 {w : World} {C V : Nat} {a : Option Addr} {g cap : Nat} {ids : ByteArray} {es : List En} {v : Nat → Nat} (h : BX w C V a g cap ids es v) : w.cell? ⟨C, 0, none⟩ = some (.slice a es.length cap) := by simp [World.cell?, h.c]
theorem BX.p1 {w : World} {C V : Nat} {a : Option Addr} {g cap : Nat} {ids : ByteArray} {es : List En} {v : Nat → Nat} (h : BX w C V a g cap ids es v) : w.cell? ⟨C, 1, none⟩ = some (.string ids) := by simp [World.cell?, h.c]
theorem BX.cw {w : World} {C V : Nat} {a : Option Addr} {g cap : Nat} {ids : ByteArray} {es : List En} {v : Nat → Nat} (h : BX w C V a g cap ids es v) : CW w C g cap a ids es := h.k.cw h.p0 h.p1
theorem BX.val {w : World} {C V : Nat} {a : Option Addr} {g cap : Nat} {ids : ByteArray} {es : List En} {v : Nat → Nat} (h : BX w C V a g cap ids es v) {k : Nat} (hk : k < 12) : w.cell? ⟨V, k, none⟩ = some (.int .u64 (v k)) := by
  match k, hk with
  | 0, _ | 1, _ | 2, _ | 3, _ | 4, _ | 5, _ | 6, _ | 7, _ | 8, _ | 9, _ | 10, _ | 11, _ => simp [World.cell?, h.u]
  | k + 12, hk => omega

set_option maxRecDepth 20000 in
set_option maxHeartbeats 2000000 in
theorem law_any {w : World} {a0 a1 a2 a3 : Option Addr} {n0 n1 n2 n3 b0 o0 b1 o1 b2 o2 b3 o3 : Nat} {s c t d : Nat → Nat} (I : Inp w a0 n0 b0 o0 s a1 n1 b1 o1 c) (J : Inp w a2 n2 b2 o2 t a3 n3 b3 o3 d) (c0 c1 c2 c3 : Nat) (hs : ¬ 1048576 < wrap64 (wrap64 (wrap64 ((n0 : Int) + (n2 : Int)) + (n1 : Int)) + (n3 : Int))) :
    Calls Ybaf.prog 3 #[.slice a0 n0 c0, .slice a1 n1 c1, .slice a2 n2 c2, .slice a3 n3 c3] w fun r w' => r = .returned (.bool true) ∧ Below w.heap.size w w' := by
  have hB1 := build_any I c0 c1
  go_enter Ybaf.func3, Ybaf.ntmps3
  go_wp2_with fail
  with_reducible refine hB1.mono ?_
  rintro r w1 ⟨a, g, cap, ids, es, v, rfl, hC, hg, hb1, hcp⟩
  clear hB1
  go_wp2_with fail
  have X := BX.made hC hcp
  have hb2 := hb1.trans ((wlay_below w1 a es.length cap ids v).mono hb1.size)
  obtain ⟨w2, hw2⟩ : ∃ w2, w2 = wlay w1 a es.length cap ids v := ⟨_, rfl⟩
  rw [← hw2] at X hb2
  unfold wlay at hw2
  rw [← hw2]
  clear hw2 hC hcp hg
  generalize w1.heap.size = C at *
  generalize C + 1 = V at *
  clear hb1
  have hB2 := build_any (J.below hb2) c2 c3
  with_reducible refine hB2.mono ?_
  rintro r w3 ⟨a', g', cap', ids', es', v', rfl, hC', hg', hb3, hcp'⟩
  clear hB2
  go_upto_region 5 with fail
  have X3 := X.below hb3
  have hb3' := hb2.trans (hb3.mono hb2.size)
  have X' := BX.made hC' hcp'
  have X4 := X3.below (wlay_below w3 a' es'.length cap' ids' v')
  have hb4 := hb3'.trans ((wlay_below w3 a' es'.length cap' ids' v').mono hb3'.size)
  obtain ⟨w4, hw4⟩ : ∃ w4, w4 = wlay w3 a' es'.length cap' ids' v' := ⟨_, rfl⟩
  rw [← hw4] at X' X4 hb4
  unfold wlay at hw4
  rw [← hw4]
  clear hw4 hC' hcp' hg' X X3 hb2 hb3 hb3' I J
  generalize w3.heap.size = C' at *
  generalize C' + 1 = V' at *
  have T : Hid (Two es es' v v') := two_of X4.k X'.k
  have TT : Hid (Two es es v v) := two_of X4.k X4.k
  have q0 := X4.p0
  have q0' := X'.p0
  have hcl := clone_any (cap := cap) X4.k.shp X4.k.form X4.k.row X4.k.len
  go_wp2_with fail
  with_reducible refine hcl.mono ?_
  rintro r w5 ⟨u5, rfl, hU, hb5⟩
  have Y := X4.below hb5
  have Y' := X'.below hb5
  have hb5' := hb4.trans (hb5.mono hb4.size)
  clear X4 X' hcl hb4 hb5 q0 q0'
  have q0' := Y'.p0
  have hcl := clone_any (cap := cap') Y'.k.shp Y'.k.form Y'.k.row Y'.k.len
  go_wp2_with fail
  with_reducible refine hcl.mono ?_
  rintro r w6 ⟨u6, rfl, hU', hb6⟩
  have Z := Y.below hb6
  have Z' := Y'.below hb6
  have HU : Hid (Cp w6 u5 es) := hU.below hb6
  have HU' : Hid (Cp w6 u6 es') := hU'
  have hb6' := hb5'.trans (hb6.mono hb5'.size)
  clear Y Y' hcl hb5' hb6 q0' hU hU'
  have q1 := Z.p1
  have q1' := Z'.p1
  go_wp2_with fail
  refine region_still (by kernel_rfl) ?_
  repeat still_step
  refine wpStill_nil ?_
  have Y := Z.below (Below.refl _ _).drew
  have Y' := Z'.below (Below.refl _ _).drew
  have GU : Hid (Cp w6.drew u5 es) := HU.out.below (Below.refl _ _).drew
  have GU' : Hid (Cp w6.drew u6 es') := HU'.out.below (Below.refl _ _).drew
  have hb7 := hb6'.drew
  clear Z Z' HU HU' hb6' q1 q1'
  generalize w6.drew = w7 at *
  have hCm := Compare_any Y.cw Y'.cw Y.cp Y'.cp T.out Y.k.frm Y'.k.frm
  go_wp2_with fail
  with_reducible refine hCm.mono ?_
  rintro r w8 ⟨⟨b, av, rfl, hR⟩, hb8⟩
  have HR : Hid (Fin v v' b av) := hR
  have Z := Y.below hb8
  have Z' := Y'.below hb8
  have HU : Hid (Cp w8 u5 es) := GU.out.below hb8
  have HU' : Hid (Cp w8 u6 es') := GU'.out.below hb8
  have hb8' := hb7.trans (hb8.mono hb7.size)
  clear Y Y' GU GU' hb7 hb8 hCm hR
  go_upto_block 0 with fail
  go_cut [20, 21, 22] from 67 to 84 (fun bv av kv wx => Lp v v' 12 bv av ∧ Below w8.heap.size w8 wx)
  case first =>
    clear HU HU' HR T TT hb8'
    go_wp2_with fail
    go_loopw [20, 21, 22] (fun bv av kv wr => ∃ k : Nat, kv = .int .i64 k ∧ k ≤ 12 ∧ Lp v v' k bv av ∧ Below w8.heap.size w8 wr) (fun _ _ kv _ => 20 - (intOf kv).toNat)
    case atStart => exact ⟨0, rfl, by omega, Lp.zero v v', Below.refl _ _⟩
    case round =>
      obtain ⟨k, rfl, hk, hL, hbr⟩ := hrel
      by_cases hk12 : k < 12
      · have hki : (k : Int) < 12 := by omega
        obtain ⟨b2, a2, rfl, rfl, hp, hq⟩ := hL
        have e0 := (Z.below hbr).val hk12
        have e0' := (Z'.below hbr).val hk12
        have HP : Hid (b2 = true ↔ ∃ t, t < k ∧ v t < v' t) := hp
        have HQ : Hid (a2 = true ↔ ∃ t, t < k ∧ v' t < v t) := hq
        clear hp hq Z Z'
        rcases Nat.lt_trichotomy (v k) (v' k) with hlt | heq | hlt
        · have h1 : (v k : Int) < (v' k : Int) := by omega
          have h2 : ¬ (v' k : Int) < (v k : Int) := by omega
          have HL : Hid (Lp v v' (k + 1) (.bool true) (.bool a2)) := ⟨true, a2, rfl, rfl, up_hit (p := fun t => v t < v' t) hlt, up_step (p := fun t => v' t < v t) HQ.out (by omega)⟩
          clear HP HQ hlt
          generalize v k = vk at *
          generalize v' k = vk' at *
          go_wp2_with fail
          refine region_still (by kernel_rfl) ?_
          repeat still_step
          refine wpStill_nil ?_
          go_wp2_with fail
          refine region_still (by kernel_rfl) ?_
          repeat still_step
          refine wpStill_nil ?_
          go_wp2_with fail
          exact ⟨⟨k + 1, by go_num, by omega, HL.out, hbr.drew.drew⟩, by simp [intOf]; omega⟩
        · have h1 : ¬ (v k : Int) < (v' k : Int) := by omega
          have h2 : ¬ (v' k : Int) < (v k : Int) := by omega
          have HL : Hid (Lp v v' (k + 1) (.bool b2) (.bool a2)) := ⟨b2, a2, rfl, rfl, up_step (p := fun t => v t < v' t) HP.out (by omega), up_step (p := fun t => v' t < v t) HQ.out (by omega)⟩
          clear HP HQ heq
          generalize v k = vk at *
          generalize v' k = vk' at *
          go_wp2_with fail
          refine region_still (by kernel_rfl) ?_
          repeat still_step
          refine wpStill_nil ?_
          go_wp2_with fail
          refine region_still (by kernel_rfl) ?_
          repeat still_step
          refine wpStill_nil ?_
          go_wp2_with fail
          exact ⟨⟨k + 1, by go_num, by omega, HL.out, hbr.drew.drew⟩, by simp [intOf]; omega⟩
        · have h1 : ¬ (v k : Int) < (v' k : Int) := by omega
          have h2 : (v' k : Int) < (v k : Int) := by omega
          have HL : Hid (Lp v v' (k + 1) (.bool b2) (.bool true)) := ⟨b2, true, rfl, rfl, up_step (p := fun t => v t < v' t) HP.out (by omega), up_hit (p := fun t => v' t < v t) hlt⟩
          clear HP HQ hlt
          generalize v k = vk at *
          generalize v' k = vk' at *
          go_wp2_with fail
          refine region_still (by kernel_rfl) ?_
          repeat still_step
          refine wpStill_nil ?_
          go_wp2_with fail
          refine region_still (by kernel_rfl) ?_
          repeat still_step
          refine wpStill_nil ?_
          go_wp2_with fail
          exact ⟨⟨k + 1, by go_num, by omega, HL.out, hbr.drew.drew⟩, by simp [intOf]; omega⟩
      · have hki : ¬ (k : Int) < 12 := by omega
        obtain rfl : k = 12 := by omega
        go_wp2_with fail
        go_meet
        case rel => exact ⟨hL, hbr⟩
  case rest =>
    obtain ⟨hL, hb9⟩ := hcut
    obtain ⟨b2, a2, rfl, rfl, hFin⟩ := hL.fin
    obtain ⟨rfl, rfl⟩ := HR.out.uniq hFin
    have Y := Z.below hb9
    have Y' := Z'.below hb9
    have GU : Hid (Cp wc u5 es) := HU.out.below hb9
    have GU' : Hid (Cp wc u6 es') := HU'.out.below hb9
    have hb10 := hb8'.trans (hb9.mono hb8'.size)
    clear Z Z' HU HU' hb8' hb9 hFin HR hL
    have ho : ordI false false = 3 := rfl
    have ho1 : ordI true false = 1 := rfl
    have ho2 : ordI false true = 2 := rfl
    have ho4 : ordI true true = 4 := rfl
    cases b <;> cases av
    all_goals (
      have hCm := Compare_any Y.cw Y.cw Y.cp Y.cp TT.out Y.k.frm Y.k.frm
      go_wp2_with fail
      with_reducible refine hCm.mono ?_
      rintro r w9 ⟨⟨b5, a5, rfl, hR5⟩, hb11⟩
      obtain ⟨rfl, rfl⟩ := hR5.self
      have Z := Y.below hb11
      have Z' := Y'.below hb11
      have HU := GU.out.below hb11
      have HU' : Hid (Cp w9 u6 es') := GU'.out.below hb11
      have hb12 := hb10.trans (hb11.mono hb10.size)
      clear Y Y' GU GU' hb10 hb11 hCm hR5 T TT
      have q0 := Z.p0
      have hE := equal_any (cap := cap) Z.k.form Z.k.row Z.k.len HU
      clear HU
      go_wp2_with fail
      with_reducible refine hE.mono ?_
      rintro r w10 ⟨rfl, hb13⟩
      have Y := Z.below hb13
      have Y' := Z'.below hb13
      have GU' := HU'.out.below hb13
      have hb14 := hb12.trans (hb13.mono hb12.size)
      clear Z Z' HU' hE hb12 hb13 q0
      have q0' := Y'.p0
      have hE := equal_any (cap := cap') Y'.k.form Y'.k.row Y'.k.len GU'
      clear GU'
      go_wp2_with fail
      with_reducible refine hE.mono ?_
      rintro r w11 ⟨rfl, hb15⟩
      have Z := Y.below hb15
      have Z' := Y'.below hb15
      have hb16 := hb14.trans (hb15.mono hb14.size)
      have q1 := Z.p1
      have q1' := Z'.p1
      have hi1 : (ids.toList == ids.toList) = true := by simp
      have hi2 : (ids'.toList == ids'.toList) = true := by simp
      clear Z Z' Y Y' hE hb14 hb15 q0'
      go_wp2_with fail
      go_ret
      exact ⟨rfl, hb16⟩)
end Go.Proofs.YbulkdlaoFmt
