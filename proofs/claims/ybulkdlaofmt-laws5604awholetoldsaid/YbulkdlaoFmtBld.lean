import Derived.Test.YbulkdlaoFmtNil
namespace Go.Proofs.YbulkdlaoFmt
set_option linter.unusedVariables false
set_option linter.unusedSimpArgs false
open Go.RowKit
open Go.Sort (grow)
attribute [local go_sem ↓] Go.wp_at_zero Go.wp_at_succ

/-- What came in: picks and counters. -/
structure Inp (w : World) (a0 : Option Addr) (n0 b0 o0 : Nat) (s : Nat → Nat) (a1 : Option Addr) (n1 b1 o1 : Nat) (c : Nat → Nat) : Prop where
  hA0 : 0 < n0 → a0 = some ⟨b0, o0, none⟩
  h0 : ∀ j, j < n0 → w.cell? ⟨b0, o0 + j, none⟩ = some (.int .u8 (s j))
  hA1 : 0 < n1 → a1 = some ⟨b1, o1, none⟩
  h1 : ∀ j, j < n1 → w.cell? ⟨b1, o1 + j, none⟩ = some (.int .u64 (c j))
  hb0 : n0 ≤ 9223372036854775807
  hb1 : n1 ≤ 9223372036854775807
  hs : ∀ j, s j ≤ 255

theorem cell_new (w : World) (l : List Value) (t : TypeId) (j : Nat) (u : Value) (h : l[j]? = some u) : (w.alloc (.cells l.toArray t)).cell? ((⟨w.heap.size, 0, none⟩ : Addr).add j) = some u := by
  have hb : (w.alloc (.cells l.toArray t)).heap[w.heap.size]? = some (.cells l.toArray t) := heap_alloc_new _ _
  have hadd : (⟨w.heap.size, 0, none⟩ : Addr).add j = ⟨w.heap.size, 0 + j, none⟩ := by unfold Addr.add; split <;> simp_all
  rw [hadd, Nat.zero_add]
  simp only [World.cell?, hb]
  simpa using h

/-- A clock as the law's builder leaves it: its entries, and the counter of each of the twelve names. -/
structure CLK (w : World) (a : Option Addr) (g : Nat) (ids : ByteArray) (es : List En) (val : Nat → Nat) : Prop where
  form : 0 < es.length → a = some ⟨g, 0, none⟩
  row : RW w g es
  ok : ∀ e, e ∈ es → Ok ids e
  len : es.length ≤ 12
  srt : ∀ (i j : Nat) (x y : En), i < j → es[i]? = some x → es[j]? = some y → rk x.k < rk y.k
  frm : ∀ (t : Nat) (x : En), es[t]? = some x → x.f = fo (pvOf es t) x.k
  mem : ∀ k, k < 12 → ∀ n, (∃ e, e ∈ es ∧ e.k = k ∧ e.n = n) ↔ n ≠ 0 ∧ val k = n
  isz : ids.size ≤ 1048576
  shp : a = none ∨ a = some ⟨g, 0, none⟩

theorem BS.new {w wr : World} {V U : Nat} {val : Nat → Nat} {us : Nat → Bool} {v : Value} {es : List En} {ids : ByteArray} (B : BS w wr V U val us v es ids) :
    Calls Ybaf.prog 16 #[v, .string ids] wr fun r w' => ∃ a g cap es3, r = .returned (.tuple #[.agg #[.slice a es3.length cap, .string ids], .nilIface]) ∧ CLK w' a g ids es3 val ∧ w.heap.size ≤ g ∧ (0 < es3.length → g < wr.heap.size ∧ v.ownBlock = some g) ∧ Kp (fun b => v.ownBlock = some b) wr w' ∧ es3.length ≤ cap := by
  have hisz : ids.size ≤ 1048576 := by have := B.isz; have := B.len; omega
  rcases B.row.slice with ⟨h1, h2⟩ | ⟨g, cap, h1, hr, hc1, hc2, hgl⟩
  · subst h1 h2
    refine (new_nil ids wr).mono ?_
    rintro r w' ⟨rfl, hb⟩
    refine ⟨none, w.heap.size, 0, [], rfl, ⟨fun h => by simp at h, ⟨fun i e he => by simp at he, fun i e he => by simp at he, fun i e he => by simp at he, fun o ho => by simp at ho⟩, fun e he => by simp at he, by simp, fun i j x y _ hx => by simp at hx, fun t x hx => by simp at hx, fun k hk n => ?_, hisz, Or.inl rfl⟩, Nat.le_refl _, fun h => by simp at h, Kp.ofBelow hb, Nat.le_refl _⟩
    rcases B.vals k hk with ⟨e, he, _⟩ | ⟨_, h0⟩
    · simp at he
    · constructor
      · rintro ⟨e, he, _⟩; simp at he
      · rintro ⟨hn, hv⟩; exact absurd (hv.symm.trans h0) hn
  · by_cases hl : 0 < es.length
    · rw [h1]
      refine (new_any hr hl B.len hc1 hc2 B.ok hisz B.nd).mono ?_
      rintro r w' ⟨es3, rfl, hr3, hN, hk⟩
      refine ⟨some ⟨g, 0, none⟩, g, cap, es3, rfl, ⟨fun _ => rfl, hr3, hN.ok, hN.len, hN.srt, hN.frm, fun k hk n => ?_, hisz, Or.inr rfl⟩, B.newR g (by rw [h1]; rfl), fun _ => ⟨hgl, rfl⟩, hk.wider (fun b _ e => by rw [e]; rfl), by have := hN.le; omega⟩
      rw [hN.mem k n]
      constructor
      · rintro ⟨hn, e, he, rfl, rfl⟩
        refine ⟨hn, ?_⟩
        rcases B.vals e.k hk with ⟨f, hf, h3, h4⟩ | ⟨h3, _⟩
        · have : f = e := by
            obtain ⟨i, hi⟩ := List.mem_iff_getElem?.1 hf
            obtain ⟨j, hj⟩ := List.mem_iff_getElem?.1 he
            have hi' : (es.map (·.k))[i]? = some e.k := by simp [hi, h3]
            have hj' : (es.map (·.k))[j]? = some e.k := by simp [hj]
            obtain ⟨l1, e1⟩ := List.getElem?_eq_some_iff.1 hi'
            obtain ⟨l2, e2⟩ := List.getElem?_eq_some_iff.1 hj'
            have hij : i = j := by
              rcases Nat.lt_trichotomy i j with h | h | h
              · exact absurd (e1.trans e2.symm) (List.pairwise_iff_getElem.1 B.nd i j l1 l2 h)
              · exact h
              · exact absurd (e2.trans e1.symm) (List.pairwise_iff_getElem.1 B.nd j i l2 l1 h)
            subst hij
            rw [hi] at hj; cases hj; rfl
          subst this
          exact h4.symm
        · exact absurd rfl (h3 e he)
      · rintro ⟨hn, hv⟩
        refine ⟨hn, ?_⟩
        rcases B.vals k hk with ⟨f, hf, h3, h4⟩ | ⟨_, h0⟩
        · exact ⟨f, hf, h3, h4.trans hv⟩
        · exact absurd (hv.symm.trans h0) hn
    · have h0 : es = [] := List.length_eq_zero_iff.1 (by omega)
      have := B.nilv h0
      rw [h1] at this
      cases this

set_option maxRecDepth 20000 in
set_option maxHeartbeats 2000000 in
theorem build_any {w : World} {a0 : Option Addr} {n0 b0 o0 : Nat} {s : Nat → Nat} {a1 : Option Addr} {n1 b1 o1 : Nat} {c : Nat → Nat} (I : Inp w a0 n0 b0 o0 s a1 n1 b1 o1 c) (c0 c1 : Nat) :
    Calls Ybaf.prog 5 #[.slice a0 n0 c0, .slice a1 n1 c1] w fun r w' => ∃ (a : Option Addr) (g cap : Nat) (ids : ByteArray) (es3 : List En) (val : Nat → Nat), r = .returned (.tuple #[.agg #[.slice a es3.length cap, .string ids], .agg #[.int .u64 (val 0), .int .u64 (val 1), .int .u64 (val 2), .int .u64 (val 3), .int .u64 (val 4), .int .u64 (val 5), .int .u64 (val 6), .int .u64 (val 7), .int .u64 (val 8), .int .u64 (val 9), .int .u64 (val 10), .int .u64 (val 11)], .bool true]) ∧ CLK w' a g ids es3 val ∧ w.heap.size ≤ g ∧ Below w.heap.size w w' ∧ es3.length ≤ cap := by
  have hb0 := I.hb0
  have hb1 := I.hb1
  obtain ⟨wA, hwA⟩ : ∃ wA, wA = (((w.alloc (.cells #[.slice none 0 0, .string ⟨#[]⟩] 26)).alloc (.cells #[.int .u64 0, .int .u64 0, .int .u64 0, .int .u64 0, .int .u64 0, .int .u64 0, .int .u64 0, .int .u64 0, .int .u64 0, .int .u64 0, .int .u64 0, .int .u64 0] 28)).alloc (.cells #[.int .u64 0, .int .u64 0, .int .u64 0, .int .u64 0, .int .u64 0, .int .u64 0, .int .u64 0, .int .u64 0, .int .u64 0, .int .u64 0, .int .u64 0, .int .u64 0] 28)).alloc (.cells #[.bool false, .bool false, .bool false, .bool false, .bool false, .bool false, .bool false, .bool false, .bool false, .bool false, .bool false, .bool false] 54) := ⟨_, rfl⟩
  obtain ⟨RC, hRC⟩ : ∃ x, x = w.heap.size := ⟨_, rfl⟩
  obtain ⟨RV, hRV⟩ : ∃ x, x = w.heap.size + 1 := ⟨_, rfl⟩
  obtain ⟨V, hV⟩ : ∃ x, x = w.heap.size + 1 + 1 := ⟨_, rfl⟩
  obtain ⟨U, hU⟩ : ∃ x, x = w.heap.size + 1 + 1 + 1 := ⟨_, rfl⟩
  have sz1 : ∀ (w : World) (o : Obj), (w.alloc o).heap.size = w.heap.size + 1 := fun w o => by simp
  have hbA : Below w.heap.size w wA := by rw [hwA]; exact ((((Below.refl _ w).alloc (Nat.le_refl _) _).alloc (by simp) _).alloc (by simp; omega) _).alloc (by simp; omega) _
  have kU : wA.heap[U]? = some (.cells #[.bool false, .bool false, .bool false, .bool false, .bool false, .bool false, .bool false, .bool false, .bool false, .bool false, .bool false, .bool false] 54) := by
    rw [hwA, hU, ← sz1 w (.cells #[.slice none 0 0, .string ⟨#[]⟩] 26), ← sz1 _ (.cells #[.int .u64 0, .int .u64 0, .int .u64 0, .int .u64 0, .int .u64 0, .int .u64 0, .int .u64 0, .int .u64 0, .int .u64 0, .int .u64 0, .int .u64 0, .int .u64 0] 28), ← sz1 _ (.cells #[.int .u64 0, .int .u64 0, .int .u64 0, .int .u64 0, .int .u64 0, .int .u64 0, .int .u64 0, .int .u64 0, .int .u64 0, .int .u64 0, .int .u64 0, .int .u64 0] 28)]
    exact heap_alloc_new _ _
  have kV : wA.heap[V]? = some (.cells #[.int .u64 0, .int .u64 0, .int .u64 0, .int .u64 0, .int .u64 0, .int .u64 0, .int .u64 0, .int .u64 0, .int .u64 0, .int .u64 0, .int .u64 0, .int .u64 0] 28) := by
    rw [hwA, RowKit.Below.heap_alloc _ _ _ (by rw [sz1, sz1, sz1]; omega), hV, ← sz1 w (.cells #[.slice none 0 0, .string ⟨#[]⟩] 26), ← sz1 _ (.cells #[.int .u64 0, .int .u64 0, .int .u64 0, .int .u64 0, .int .u64 0, .int .u64 0, .int .u64 0, .int .u64 0, .int .u64 0, .int .u64 0, .int .u64 0, .int .u64 0] 28)]
    exact heap_alloc_new _ _
  have kRV : FB wA RV 12 28 (fun _ => .int .u64 0) := by
    show wA.heap[RV]? = _
    rw [hwA, RowKit.Below.heap_alloc _ _ _ (by rw [sz1, sz1, sz1]; omega), RowKit.Below.heap_alloc _ _ _ (by rw [sz1, sz1]; omega), hRV, ← sz1 w (.cells #[.slice none 0 0, .string ⟨#[]⟩] 26)]
    exact heap_alloc_new _ _
  have kRC : wA.heap[RC]? = some (.cells #[.slice none 0 0, .string ⟨#[]⟩] 26) := by
    rw [hwA, RowKit.Below.heap_alloc _ _ _ (by rw [sz1, sz1, sz1]; omega), RowKit.Below.heap_alloc _ _ _ (by rw [sz1, sz1]; omega), RowKit.Below.heap_alloc _ _ _ (by rw [sz1]; omega), hRC]
    exact heap_alloc_new _ _
  have B0 : BS w wA V U (fun _ => 0) (fun _ => false) (.slice none 0 0) [] ⟨#[]⟩ :=
    { vb := kV, ub := kU, row := ⟨rfl, .inl ⟨rfl, rfl⟩⟩, ok := fun e he => by simp at he, nd := by simp, usd := fun k _ => by simp, vals := fun k _ => .inr ⟨fun e he => by simp at he, rfl⟩, below := hbA, newV := by omega, newU := by omega, newR := fun g h => (by cases h), isz := by decide, nilv := fun _ => rfl }
  have HN : Hid (RC ≠ RV ∧ RC ≠ V ∧ RC ≠ U ∧ RV ≠ V ∧ RV ≠ U ∧ w.heap.size ≤ RC ∧ w.heap.size ≤ RV) := ⟨by omega, by omega, by omega, by omega, by omega, by omega, by omega⟩
  go_enter Ybaf.func5, Ybaf.ntmps5
  go_wp2_with fail
  rw [← hwA, ← hU, ← hV, ← hRV, ← hRC]
  clear hwA hU hV hRV hRC kU kV hbA sz1
  go_loopw [9, 10, 20] (fun rv iv jv wr => ∃ (j : Nat) (val : Nat → Nat) (us : Nat → Bool) (es : List En) (ids : ByteArray), iv = .string ids ∧ jv = .int .i64 j ∧ j ≤ n0 ∧ BS w wr V U val us rv es ids ∧ wr.heap[RC]? = some (.cells #[.slice none 0 0, .string ⟨#[]⟩] 26) ∧ FB wr RV 12 28 (fun _ => .int .u64 0)) (fun _ _ jv _ => n0 - (intOf jv).toNat)
  case atStart => exact ⟨0, _, _, _, _, rfl, rfl, Nat.zero_le _, B0, kRC, kRV⟩
  case round =>
    clear B0 kRC kRV
    obtain ⟨j, val, us, es, ids, rfl, rfl, hj, B, kRC, kRV⟩ := hrel
    by_cases hjl : j < n0
    · have hji : (j : Int) < (n0 : Int) := by omega
      obtain rfl := I.hA0 (by omega)
      have e0 : wr.cell? ⟨b0, o0 + j, none⟩ = some (.int .u8 (s j)) := (B.below.cell (block_lt_of_cell (I.h0 j hjl))).trans (I.h0 j hjl)
      obtain ⟨k, hk⟩ : ∃ k, k = s j % 12 := ⟨_, rfl⟩
      have hkl : k < 12 := by omega
      have hks : ((s j : Int)).tmod 12 = (k : Int) := by rw [hk, Int.tmod_eq_emod_of_nonneg (by omega)]; omega
      have hkm : (s j : Int) % 12 = (k : Int) := by omega
      have hki : (k : Int) < 12 := by omega
      have hsb : s j ≤ 255 := I.hs j
      have u0 := B.ub.cell hkl
      have uf := B.ub.frozen k
      clear hk
      cases hus : us k with
      | true =>
        rw [hus] at u0
        go_wp2_with fail
        exact ⟨⟨j + 1, val, us, es, ids, rfl, by go_num, by omega, B, kRC, kRV⟩, by simp [intOf]; omega⟩
      | false =>
        rw [hus] at u0
        obtain ⟨wu, hwu⟩ : ∃ wu, wu = wr.setCell ⟨U, k, none⟩ (.bool true) := ⟨_, rfl⟩
        obtain ⟨n, hn⟩ : ∃ n, n = if j < n1 then c j else 1 := ⟨_, rfl⟩
        have hVU := B.neVU
        have v0 : wu.cell? ⟨V, k, none⟩ = some (.int .u64 (val k)) := by
          rw [hwu]; exact (World.cell?_of_block (RowKit.Below.heap_setCell _ _ _ _ hVU)).trans (B.vb.cell hkl)
        have vf : wu.frozen? ⟨V, k, none⟩ = false := by
          rw [hwu]; exact (World.frozen?_of_block (RowKit.Below.heap_setCell _ _ _ _ hVU)).trans (B.vb.frozen k)
        have hc1 : j < n1 → a1 = some ⟨b1, o1, none⟩ ∧ wu.cell? ⟨b1, o1 + j, none⟩ = some (.int .u64 (c j)) := fun hj1 => by
          have hl1 := block_lt_of_cell (I.h1 j hj1)
          have hne : b1 ≠ U := by have := B.newU; simp at hl1; omega
          refine ⟨I.hA1 (by omega), ?_⟩
          rw [hwu]
          exact (World.cell?_of_block (RowKit.Below.heap_setCell _ _ _ _ hne)).trans ((B.below.cell hl1).trans (I.h1 j hj1))
        have HUS : Hid (us k = false) := hus
        clear hus
        go_upto_if 36 with fail
        rw [← hwu]
        have HWU : Hid (wu = wr.setCell ⟨U, k, none⟩ (.bool true)) := hwu
        clear hwu
        go_cut [14] from 33 to 40 (fun nv wc => nv = .int .u64 (n : Nat) ∧ wc = wu)
        case first =>
          by_cases hj1 : j < n1
          · have hj1' : (j : Int) < (n1 : Int) := by omega
            obtain ⟨rfl, hcc⟩ := hc1 hj1
            have HNN : Hid (n = c j) := by show n = c j; rw [hn, if_pos hj1]
            clear hn
            go_wp2_with fail
            go_meet
            case rel => exact ⟨by rw [HNN.out], rfl⟩
          · have hj1' : ¬ (j : Int) < (n1 : Int) := by omega
            have HNN : Hid (n = 1) := by show n = 1; rw [hn, if_neg hj1]
            clear hn
            go_wp2_with fail
            go_meet
            case rel => exact ⟨by rw [HNN.out]; rfl, rfl⟩
        case rest =>
          obtain ⟨rfl, hwc⟩ := hcut
          rw [hwc]
          clear hwc hn hc1 e0 u0 uf
          obtain ⟨wa, hwa⟩ : ∃ wa, wa = wu.setCell ⟨V, k, none⟩ (.int .u64 n) := ⟨_, rfl⟩
          have hwa2 : Hid (wa = (wr.setCell ⟨U, k, none⟩ (.bool true)).setCell ⟨V, k, none⟩ (.int .u64 n)) := by show wa = _; rw [hwa, HWU.out]
          have hnm := nm_size k
          have hlen := B.len
          have hisz := B.isz
          obtain ⟨ra, rc, hrv⟩ : ∃ a c, u9 = .slice a es.length c := by
            rcases B.row.slice with ⟨h1, h2⟩ | ⟨g, cap, h1, _⟩
            · exact ⟨none, 0, by rw [h1, h2]; rfl⟩
            · exact ⟨_, _, h1⟩
          subst hrv
          have hrowa : OR wa (.slice ra es.length rc) es := B.row.block (fun g hg => by
            rw [hwa, HWU.out]
            exact (RowKit.Below.heap_setCell _ _ _ _ (B.neR hg).1).trans (RowKit.Below.heap_setCell _ _ _ _ (B.neR hg).2))
          go_upto_region 15 with fail
          rw [← hwa]
          clear hwa v0 vf
          go_wp2_with fail
          with_reducible refine (name_any k hkl wa).mono ?_
          rintro r w2 ⟨rfl, rfl⟩
          obtain ⟨i0, hii, hz0, hz1, hz2⟩ := info_parts info34
          go_wp2_with (at_builtin; refine wpList_append_own_at _ rfl _ _ 24 rfl 0 34 i0 _ 3 24 Ybaf.underlying24 hii hz0 hz1 hz2 rfl (by decide) _ _ _ rfl (World.ownsRow.alloc hrowa _) ⟨w2.heap.size, 0, none⟩ 1 1 (encE (newE ids n k)) rfl rfl ?q1 ?q2 ?q3 ?q4 ?q5 ?q6)
          case q1 => exact cell_new w2 (encE (newE ids n k)) 34
          case q2 => intro u hu; simp [encE] at hu; rcases hu with rfl | rfl | rfl <;> rfl
          case q3 => unfold maxLen; omega
          case q4 => omega
          case q5 => omega
          intro v' w' hown hgrow hnil hloc
          have B2 := B.add hkl HUS.out hwa2.out hown hgrow hloc
          have hRCl : RC < wr.heap.size := N2lt kRC
          have hRVl : RV < wr.heap.size := kRV.lt
          have kRC2 : w'.heap[RC]? = some (.cells #[.slice none 0 0, .string ⟨#[]⟩] 26) := (BS.other hwa2.out hgrow hRCl HN.out.2.2.1 HN.out.2.1 (fun e => by
            obtain ⟨cur, hcu⟩ := B.row.obj e
            rw [kRC] at hcu; cases hcu)).trans kRC
          have kRV2 : FB w' RV 12 28 (fun _ => .int .u64 0) := kRV.block (BS.other hwa2.out hgrow hRVl HN.out.2.2.2.2.1 HN.out.2.2.2.1 (fun e => by
            obtain ⟨cur, hcu⟩ := B.row.obj e
            have h1 := kRV
            unfold FB at h1
            rw [h1] at hcu; cases hcu))
          obtain ⟨ra', rc', hrv'⟩ : ∃ a c, v' = .slice a (es.length + 1) c := by
            rcases B2.row.slice with ⟨h1, h2⟩ | ⟨g, cap, h1, _⟩
            · simp at h2
            · exact ⟨some ⟨g, 0, none⟩, cap, by rw [h1]; simp⟩
          subst hrv'
          clear hown hgrow hnil hloc hrowa B kRC kRV hwa2 HWU
          go_wp2_with fail
          go_roundw
          case rel => exact ⟨j + 1, _, _, _, ids ++ nm k, rfl, by go_num, by omega, B2, kRC2, kRV2⟩
          case measure => simp [intOf]; omega
    · have hji : ¬ (j : Int) < (n0 : Int) := by omega
      go_upto_region 19 with fail
      have hnew := B.new
      go_wp2_with fail
      with_reducible refine hnew.mono ?_
      rintro r w2 ⟨a, g, cap, es3, rfl, hC, hgn, hgo, hk, hcap3⟩
      clear hnew
      go_upto_region 20 with fail
      obtain ⟨w3, hw3⟩ : ∃ w3, w3 = w2.alloc (.cells #[.slice a es3.length cap, .string ids] 26) := ⟨_, rfl⟩
      obtain ⟨X, hX⟩ : ∃ X, X = w2.heap.size := ⟨_, rfl⟩
      rw [← hw3, ← hX]
      have hRow : ∀ (b : Nat) (t : TypeId) (cs : Array Value), wr.heap[b]? = some (Obj.cells cs t) → t ≠ 34 → w2.heap[b]? = wr.heap[b]? := fun b t cs hb ht => hk.block b (N2lt hb) (fun e => by
        obtain ⟨cur, hcu⟩ := B.row.obj e
        rw [hb] at hcu
        cases hcu
        exact ht rfl)
      have kV2 : FB w2 V 12 28 (fun k => .int .u64 (val k)) := B.vb.block (hRow V 28 _ B.vb (by decide))
      have kRC2 := (hRow RC 26 _ kRC (by decide)).trans kRC
      have kRV2 : FB w2 RV 12 28 (fun _ => .int .u64 0) := kRV.block (hRow RV 28 _ kRV (by decide))
      have hXb : w3.heap[X]? = some (.cells #[.slice a es3.length cap, .string ids] 26) := by rw [hw3, hX]; exact heap_alloc_new _ _
      have hb3 : Below w2.heap.size w2 w3 := by rw [hw3]; exact (Below.refl _ _).alloc (Nat.le_refl _) _
      have kV3 : FB w3 V 12 28 (fun k => .int .u64 (val k)) := kV2.block (hb3.block V kV2.lt)
      have kRC3 : w3.heap[RC]? = some (.cells #[.slice none 0 0, .string ⟨#[]⟩] 26) := (hb3.block RC (N2lt kRC2)).trans kRC2
      have kRV3 : FB w3 RV 12 28 (fun _ => .int .u64 0) := kRV2.block (hb3.block RV kRV2.lt)
      have hXRC : X ≠ RC := by have := N2lt kRC2; omega
      have hXRV : X ≠ RV := by have := kRV2.lt; omega
      have hVRC : V ≠ RC := Ne.symm HN.out.2.1
      have hVRV : V ≠ RV := Ne.symm HN.out.2.2.2.1
      have hRR : RC ≠ RV := HN.out.1
      have hRR2 : RV ≠ RC := Ne.symm hRR
      obtain ⟨cs, hcs⟩ : ∃ cs : List Value, cs = (List.range 12).map (fun k => .int .u64 (val k)) := ⟨_, rfl⟩
      have hcl : cs.length = 12 := by rw [hcs]; rfl
      have h1c : ∀ v ∈ cs, v.oneCell' = true := fun v hv => by
        rw [hcs] at hv
        obtain ⟨k, _, rfl⟩ := List.mem_map.1 hv
        rfl
      have hu28 := Ybaf.underlying28
      have hi28 : (Ybaf.prog.info? 28).map (·.size) = some cs.length := by rw [hcl]; kernel_rfl
      have th : ∀ w' : World, w'.heap[RV]? = w3.heap[RV]? → w'.there RV 0 12 := fun w' h1 k hk => by
        have e1 : FB w' RV 12 28 (fun _ => .int .u64 0) := kRV3.block h1
        rw [Nat.zero_add]
        exact ⟨by rw [e1.cell hk]; rfl, e1.frozen k⟩
      have hS : ∀ w' : World, w'.heap[X]? = w3.heap[X]? → w'.heap[V]? = w3.heap[V]? → w'.there RV 0 12 → (w'.cell? ⟨X, 0, none⟩ = some (.slice a es3.length cap) ∧ w'.cell? ⟨X, 1, none⟩ = some (.string ids) ∧ w'.rangeAt V 0 cs ∧ w'.there RV 0 12) := fun w' h1 h2 h3 => by
        have e1 := h1.trans hXb
        have e2 : FB w' V 12 28 (fun k => .int .u64 (val k)) := kV3.block h2
        refine ⟨by simp [World.cell?, e1], by simp [World.cell?, e1], fun k v hv => ?_, h3⟩
        rw [hcs] at hv
        have hk : k < 12 := by have := (List.getElem?_eq_some_iff.1 hv).1; simpa using this
        rw [Nat.zero_add, e2.cell hk]
        simpa [hk] using hv
      have rc0 : w3.cell? ⟨RC, 0, none⟩ = some (.slice none 0 0) := by simp [World.cell?, kRC3]
      have rc1 : w3.cell? ⟨RC, 1, none⟩ = some (.string ⟨#[]⟩) := by simp [World.cell?, kRC3]
      have rcf0 : w3.frozen? ⟨RC, 0, none⟩ = false := by simp [World.frozen?, kRC3]
      have rcf1 : w3.frozen? ⟨RC, 1, none⟩ = false := by simp [World.frozen?, kRC3]
      have rl0 : ∀ L, (w3.setCells RV 0 L).cell? ⟨RC, 0, none⟩ = some (.slice none 0 0) := fun L => (World.cell?_of_block (setCells_block RV hRR L 0 w3)).trans rc0
      have rl1 : ∀ L, (w3.setCells RV 0 L).cell? ⟨RC, 1, none⟩ = some (.string ⟨#[]⟩) := fun L => (World.cell?_of_block (setCells_block RV hRR L 0 w3)).trans rc1
      have rlf0 : ∀ L, (w3.setCells RV 0 L).frozen? ⟨RC, 0, none⟩ = false := fun L => (World.frozen?_of_block (setCells_block RV hRR L 0 w3)).trans rcf0
      have rlf1 : ∀ L, (w3.setCells RV 0 L).frozen? ⟨RC, 1, none⟩ = false := fun L => (World.frozen?_of_block (setCells_block RV hRR L 0 w3)).trans rcf1
      have HCS : Hid (cs = (List.range 12).map (fun k => .int .u64 (val k))) := hcs
      clear hcs
      have HB : Hid (Below w.heap.size w w3) := by
        have h1 : Below w.heap.size w w2 := B.below.trans (hk.below B.below.size (fun b e => B.newR b e))
        exact h1.trans (hb3.mono h1.size)
      have HC : Hid (CLK w3 a g ids es3 val) := ⟨hC.form, by
        rcases Nat.eq_zero_or_pos es3.length with h0 | h0
        · have := List.length_eq_zero_iff.1 h0
          subst this
          exact ⟨fun i e he => by simp at he, fun i e he => by simp at he, fun i e he => by simp at he, fun o ho => by simp at ho⟩
        · exact hC.row.block (hb3.block g (hC.row.lt h0)), hC.ok, hC.len, hC.srt, hC.frm, hC.mem, hC.isz, hC.shp⟩
      clear hC hgo hk hw3 hX kV2 kRC2 kRV2 hb3 hRow B kRC kRV I
      go_region_held3 (fun w' => w'.cell? ⟨X, 0, none⟩ = some (.slice a es3.length cap) ∧ w'.cell? ⟨X, 1, none⟩ = some (.string ids) ∧ w'.rangeAt V 0 cs ∧ w'.there RV 0 12)
        ((refine hS _ ?_ ?_ ?_ <;> repeat first | rfl | refine (RowKit.Below.heap_setCell _ _ _ _ hXRC).trans ?_ | refine (setCells_block RV hXRV _ _ _).trans ?_ | refine (RowKit.Below.heap_setCell _ _ _ _ hVRC).trans ?_ | refine (setCells_block RV hVRV _ _ _).trans ?_ | refine World.there_setCells ?_ _ _ _ | refine (RowKit.Below.heap_setCell _ _ _ _ hRR2).trans ?_ | refine th _ ?_))
        (fail)
      obtain ⟨W3, hW3⟩ : ∃ W3, W3 = ((w3.setCell ⟨RC, 0, none⟩ (.slice a es3.length cap)).setCell ⟨RC, 1, none⟩ (.string ids)).drew := ⟨_, rfl⟩
      have kRC4 : W3.heap[RC]? = some (.cells #[.slice a es3.length cap, .string ids] 26) := by rw [hW3]; exact boxset (boxset kRC3 0 _) 1 _
      have hoth : ∀ b, b ≠ RC → W3.heap[b]? = w3.heap[b]? := fun b hb' => by rw [hW3]; exact (RowKit.Below.heap_setCell _ _ _ _ hb').trans (RowKit.Below.heap_setCell _ _ _ _ hb')
      have kRV4 : FB W3 RV 12 28 (fun _ => .int .u64 0) := kRV3.block (hoth RV hRR2)
      rw [← hW3]
      have hin : ∀ j, j < cs.length → (W3.cell? ⟨RV, 0 + j, none⟩).isSome = true := fun j hj => by rw [Nat.zero_add, kRV4.cell (by omega)]; rfl
      have hvk : ∀ k, k < 12 → (W3.setCells RV 0 cs).cell? ⟨RV, k, none⟩ = some (.int .u64 (val k)) := fun k hk => by
        have h1 := World.cell?_setCells_in RV cs 0 W3 hin k (by omega)
        rw [Nat.zero_add] at h1
        rw [h1]
        have : cs[k]? = some (.int .u64 (val k)) := by rw [HCS.out]; simp [hk]
        have h2 := List.getElem?_eq_some_iff.1 this
        rw [h2.2]
      have v0 := hvk 0 (by omega)
      have v1 := hvk 1 (by omega)
      have v2 := hvk 2 (by omega)
      have v3 := hvk 3 (by omega)
      have v4 := hvk 4 (by omega)
      have v5 := hvk 5 (by omega)
      have v6 := hvk 6 (by omega)
      have v7 := hvk 7 (by omega)
      have v8 := hvk 8 (by omega)
      have v9 := hvk 9 (by omega)
      have v10 := hvk 10 (by omega)
      have v11 := hvk 11 (by omega)
      have n0' : (W3.setCells RV 0 cs).cell? ⟨RC, 0, none⟩ = some (.slice a es3.length cap) := (World.cell?_of_block (setCells_block RV hRR cs 0 W3)).trans (by simp [World.cell?, kRC4])
      have n1' : (W3.setCells RV 0 cs).cell? ⟨RC, 1, none⟩ = some (.string ids) := (World.cell?_of_block (setCells_block RV hRR cs 0 W3)).trans (by simp [World.cell?, kRC4])
      have hCf : CLK (W3.setCells RV 0 cs) a g ids es3 val := ⟨HC.out.form, by
        rcases Nat.eq_zero_or_pos es3.length with h0 | h0
        · have := List.length_eq_zero_iff.1 h0
          subst this
          exact ⟨fun i e he => by simp at he, fun i e he => by simp at he, fun i e he => by simp at he, fun o ho => by simp at ho⟩
        · have he := List.getElem?_eq_getElem h0
          have hg1 : g ≠ RC := fun e => by
            have h2 := HC.out.row.c0 0 _ he
            rw [e, Nat.zero_mul, rc0] at h2
            simp at h2
          have hg2 : g ≠ RV := fun e => by
            have h2 := HC.out.row.c2 0 _ he
            rw [e, Nat.zero_mul, Nat.zero_add, kRV3.cell (by omega)] at h2
            simp at h2
          exact HC.out.row.block ((setCells_block RV hg2 cs 0 W3).trans (hoth g hg1)), HC.out.ok, HC.out.len, HC.out.srt, HC.out.frm, HC.out.mem, HC.out.isz, HC.out.shp⟩
      have hBf : Below w.heap.size w (W3.setCells RV 0 cs) := by
        have h1 : Below w.heap.size w W3 := by rw [hW3]; exact ((HB.out.setCell (p := ⟨RC, 0, none⟩) HN.out.2.2.2.2.2.1 _).setCell (p := ⟨RC, 1, none⟩) HN.out.2.2.2.2.2.1 _).drew
        exact h1.trans ⟨setCells_os _ _ _ _, setCells_tape _ _ _ _, setCells_out _ _ _ _, by rw [setCells_size]; exact Nat.le_refl _, fun b hb' => setCells_block RV (by have := HN.out.2.2.2.2.2.2; omega) cs 0 W3⟩
      clear hS th rl0 rl1 rlf0 rlf1 hW3 hvk hin
      generalize W3.setCells RV 0 cs = W4 at *
      go_wp2_with fail
      refine bodyPost_ret (v := .tuple #[.agg #[.slice a es3.length cap, .string ids], .agg #[.int .u64 (val 0), .int .u64 (val 1), .int .u64 (val 2), .int .u64 (val 3), .int .u64 (val 4), .int .u64 (val 5), .int .u64 (val 6), .int .u64 (val 7), .int .u64 (val 8), .int .u64 (val 9), .int .u64 (val 10), .int .u64 (val 11)], .bool true]) ?_ rfl ⟨a, g, cap, ids, es3, val, rfl, hCf, hgn, hBf, hcap3⟩
      simp [results, Ybaf.results5, go_sem, n0', n1', v0, v1, v2, v3, v4, v5, v6, v7, v8, v9, v10, v11]
end Go.Proofs.YbulkdlaoFmt
