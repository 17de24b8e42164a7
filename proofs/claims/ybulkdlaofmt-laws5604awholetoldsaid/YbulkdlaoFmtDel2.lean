import Derived.Test.YbulkdlaoFmtDel
namespace Go.Proofs.YbulkdlaoFmt
set_option linter.unusedVariables false
set_option linter.unusedSimpArgs false
open Go.RowKit
open Go.Sort (grow)

theorem filter_hit : ∀ {l : List En} {j : Nat}, (∀ (t : Nat) (f : En), t < j → l[t]? = some f → live f = true) → (l.take j).filter live = l.take j := fun {l j} h => by
  refine List.filter_eq_self.2 (fun e he => ?_)
  obtain ⟨t, ht⟩ := List.mem_iff_getElem?.1 he
  rw [List.getElem?_take] at ht
  split at ht
  · rename_i hlt; exact h t e hlt ht
  · cases ht

theorem filter_step {l : List En} {j : Nat} {e : En} (h : l[j]? = some e) : (l.take (j + 1)).filter live = (l.take j).filter live ++ (if live e = true then [e] else []) := by
  rw [List.take_add_one, h, List.filter_append]
  cases he : live e <;> simp [he]

theorem drop_get {α : Type} {l m : List α} {j : Nat} (h : l.drop j = m.drop j) {t : Nat} (ht : j ≤ t) : l[t]? = m[t]? := by
  have h1 : (l.drop j)[t - j]? = (m.drop j)[t - j]? := by rw [h]
  rw [List.getElem?_drop, List.getElem?_drop, show j + (t - j) = t by omega] at h1
  exact h1

theorem setCells_os (g : Nat) : ∀ (L : List Value) (o : Nat) (w : World), (w.setCells g o L).os = w.os
  | [], _, _ => rfl
  | v :: r, o, w => (setCells_os g r (o + 1) _).trans rfl
theorem setCells_tape (g : Nat) : ∀ (L : List Value) (o : Nat) (w : World), (w.setCells g o L).tape = w.tape
  | [], _, _ => rfl
  | v :: r, o, w => (setCells_tape g r (o + 1) _).trans rfl
theorem setCells_out (g : Nat) : ∀ (L : List Value) (o : Nat) (w : World), (w.setCells g o L).output = w.output
  | [], _, _ => rfl
  | v :: r, o, w => (setCells_out g r (o + 1) _).trans rfl
theorem setCells_size (g : Nat) : ∀ (L : List Value) (o : Nat) (w : World), (w.setCells g o L).heap.size = w.heap.size
  | [], _, _ => rfl
  | v :: r, o, w => (setCells_size g r (o + 1) _).trans (World.size_setCell _ _ _)
theorem setCells_block (g : Nat) {b : Nat} (hb : b ≠ g) : ∀ (L : List Value) (o : Nat) (w : World), (w.setCells g o L).heap[b]? = w.heap[b]?
  | [], _, _ => rfl
  | v :: r, o, w => (setCells_block g hb r (o + 1) _).trans (RowKit.Below.heap_setCell _ _ _ _ hb)

set_option maxRecDepth 20000 in
set_option maxHeartbeats 1000000 in
theorem del_any {w : World} {g cap : Nat} {es : List En} (h : RW w g es) (hl : 0 < es.length) (hl2 : es.length ≤ 12) (hcap : es.length ≤ cap) (hcm : cap ≤ maxLen) :
    Calls Ybaf.prog 31 #[.slice (some ⟨g, 0, none⟩) es.length cap, .func (.func 32) #[] #[]] w fun r w' => r = .returned (.slice (some ⟨g, 0, none⟩) (es.filter live).length cap) ∧ RW w' g (es.filter live) ∧ Kp (fun b => b = g) w w' := by
  have hg := h.lt hl
  have eg : ∀ args w, (callFunc 32 args).run Ybaf.prog w = .ok (.enter 32 args) w := enters_of Ybaf.func32 (by kernel_rfl) rfl
  have hp : PredBelow Ybaf.prog 32 #[] (fun x : En => .agg (encE x).toArray) (fun x => decide (x.n = 0)) w := fun W x hb => (zero_any x W).mono fun r w' ⟨h1, h2⟩ => ⟨h1, hb.trans (h2.mono hb.size)⟩
  have hcon := AnyQ.slices_IndexFunc Ybaf.lindex 3 Ybaf.isAgg34 Ybaf.sizeOf34 encE (fun _ => rfl) (fun x => decide (x.n = 0)) 32 #[] eg g 0 es.length cap es w hp (Nat.le_refl _) (by omega) hg (fun j hj i v hv => by
    have he := List.getElem?_eq_getElem hj
    have e1 : es[j]! = es[j] := by simp [hj]
    rw [e1] at hv
    rw [Nat.zero_add]
    match i, hv with
    | 0, hv => simp [encE] at hv; rw [← hv]; exact h.c0 j _ he
    | 1, hv => simp [encE] at hv; rw [← hv]; exact h.c1 j _ he
    | 2, hv => simp [encE] at hv; rw [← hv]; exact h.c2 j _ he
    | n + 3, hv => simp [encE] at hv)
  change Calls Ybaf.prog 48 _ _ _ at hcon
  have hidx := idx_spec default (es.take es.length) 0
  rw [List.take_length] at hidx
  have hix : Lib.idxBy (fun _ y => decide (y.n = 0)) (es.take es.length) default = Lib.idxByFrom (fun _ y => decide (y.n = 0)) default es 0 := by rw [List.take_length]; rfl
  rw [hix] at hcon
  rcases hidx with ⟨h1, h2⟩ | ⟨i0, e0, h1, h2, h3, h4⟩
  · rw [h1] at hcon
    have hall : es.filter live = es := List.filter_eq_self.2 h2
    rw [hall]
    clear h1 h2 hix hall
    go_enter Ybaf.func31, Ybaf.ntmps31
    go_wp2_with fail
    refine hcon.mono ?_
    rintro r w1 ⟨rfl, hb1⟩
    go_wp2_with fail
    go_ret
    exact ⟨rfl, h.block (hb1.block g hg), Kp.ofBelow hb1⟩
  · rw [h4, Nat.zero_add] at hcon
    have hi0 := (List.getElem?_eq_some_iff.1 h1).1
    have hst : Hid (es.take i0 = (es.take (i0 + 1)).filter live ∧ es.drop (i0 + 1) = es.drop (i0 + 1)) := ⟨by rw [filter_step h1, if_neg (by rw [h2]; simp), List.append_nil, filter_hit h3], rfl⟩
    clear h2 h3 h4 hix
    go_enter Ybaf.func31, Ybaf.ntmps31
    go_wp2_with fail
    refine hcon.mono ?_
    rintro r w1 ⟨rfl, hb1⟩
    have hne : ((i0 : Int) == -1) = false := by simp
    go_wp2_with fail
    go_loopw [5, 6] (fun iv jv wr => ∃ (i j : Nat) (cur : List En), iv = .int .i64 i ∧ jv = .int .i64 j ∧ i < j ∧ j ≤ es.length ∧ cur.length = es.length ∧ RW wr g cur ∧ Kp (fun b => b = g) w wr ∧ Hid (cur.take i = (es.take j).filter live ∧ cur.drop j = es.drop j)) (fun _ jv _ => es.length - (intOf jv).toNat)
    case atStart => exact ⟨i0, i0 + 1, es, rfl, by go_num, by omega, by omega, rfl, h.block (hb1.block g hg), Kp.ofBelow hb1, ⟨hst.out.1, rfl⟩⟩
    case round =>
      obtain ⟨i, j, cur, rfl, rfl, hij, hj, hcl, hR, hk, hH⟩ := hrel
      by_cases hjl : j < es.length
      · obtain ⟨e, he⟩ : ∃ e, es[j]? = some e := ⟨_, List.getElem?_eq_getElem hjl⟩
        have hce : cur[j]? = some e := by rw [drop_get hH.out.2 (Nat.le_refl _)]; exact he
        have y0 := hR.c0 j e hce
        have y1 := hR.c1 j e hce
        have y2 := hR.c2 j e hce
        have hji : (j : Int) < (es.length : Int) := by omega
        go_wp2_with fail
        refine (zero_any e _).mono ?_
        rintro r w2 ⟨rfl, hb2⟩
        obtain ⟨X, hX⟩ : ∃ X, X = wr.heap.size := ⟨_, rfl⟩
        have hg2 : g < wr.heap.size := Nat.lt_of_lt_of_le hg hk.size
        have hXb : w2.heap[X]? = some (.cells #[.int .u64 e.f, .int .u64 e.n, .int .i64 e.a] 34) := by
          rw [hb2.block X (by rw [hX]; simp), hX]; exact heap_alloc_new _ _
        have hk2 : Kp (fun b => b = g) w w2 := hk.trans ((Kp.ofBelow ((Below.refl _ wr).alloc (Nat.le_refl _) _)).trans (Kp.ofBelow hb2))
        have hR2 : RW w2 g cur := hR.block (by rw [hb2.block g (by simp; omega), RowKit.Below.heap_alloc _ _ _ hg2])
        have hXg : X ≠ g := by omega
        rw [← hX]
        clear hb2 y0 y1 y2 hX
        have x0 : w2.cell? ⟨X, 0, none⟩ = some (.int .u64 e.f) := by simp [World.cell?, hXb]
        have x1 : w2.cell? ⟨X, 1, none⟩ = some (.int .u64 e.n) := by simp [World.cell?, hXb]
        have x2 : w2.cell? ⟨X, 2, none⟩ = some (.int .i64 e.a) := by simp [World.cell?, hXb]
        by_cases hn : e.n = 0
        · rw [decide_eq_true hn]
          have hst2 : Hid (cur.take i = (es.take (j + 1)).filter live ∧ cur.drop (j + 1) = es.drop (j + 1)) := by
            refine ⟨?_, ?_⟩
            · rw [filter_step he, if_neg (by simp [live, hn]), List.append_nil]; exact hH.out.1
            · rw [← List.drop_drop, ← List.drop_drop, hH.out.2]
          clear hn
          go_wp2_with fail
          go_roundw
          case rel => exact ⟨i, j + 1, cur, rfl, by go_num, by omega, by omega, hcl, hR2, hk2, hst2⟩
          case measure => simp [intOf]; omega
        · rw [decide_eq_false hn]
          have hil : i < cur.length := by omega
          have hci := List.getElem?_eq_getElem hil
          have z0 := hR2.c0 i _ hci
          have z1 := hR2.c1 i _ hci
          have z2 := hR2.c2 i _ hci
          have f0 := hR2.fz (i * 3) (by omega)
          have f1 := hR2.fz (i * 3 + 1) (by omega)
          have f2 := hR2.fz (i * 3 + 2) (by omega)
          have hii : (i : Int) < (es.length : Int) := by omega
          have hR3 := hR2.set hil e
          have hst2 : Hid ((cur.set i e).take (i + 1) = (es.take (j + 1)).filter live ∧ (cur.set i e).drop (j + 1) = es.drop (j + 1)) := by
            refine ⟨?_, ?_⟩
            · rw [filter_step he, if_pos (by simp [live, hn]), List.take_add_one, List.take_set, List.set_eq_of_length_le (by rw [List.length_take]; omega), hH.out.1, List.getElem?_set]
              simp [hil]
            · rw [List.drop_set_of_lt (by omega), ← List.drop_drop, ← List.drop_drop, hH.out.2]
          clear hn
          go_wp2_with fail
          go_roundw
          case rel => exact ⟨i + 1, j + 1, cur.set i e, by go_num, by go_num, by omega, by omega, by rw [List.length_set]; exact hcl, hR3, ((hk2.setCell (.inl rfl) _).setCell (.inl rfl) _).setCell (.inl rfl) _, hst2⟩
          case measure => simp [intOf]; omega
      · have hji : ¬ (j : Int) < (es.length : Int) := by omega
        have hje : j = es.length := by omega
        have hfin : cur.take i = es.filter live := by rw [hH.out.1, hje, List.take_length]
        have hil : i < cur.length := by omega
        have hfl : (es.filter live).length = i := by rw [← hfin, List.length_take]; omega
        obtain ⟨L, hcl2, hLl⟩ := clear_any hR hil (cap - i)
        rw [hcl] at hcl2 hLl
        have hii : (i : Int) ≤ (es.length : Int) := by omega
        have hic : (es.length : Int) ≤ (cap : Int) := by omega
        have hRf : RW (wr.setCells g (i * 3) L) g (es.filter live) := by
          rw [← hfin]
          have hT := hR.take i
          have hout : ∀ t r, t < i → r < 3 → (wr.setCells g (i * 3) L).cell? ⟨g, t * 3 + r, none⟩ = wr.cell? ⟨g, t * 3 + r, none⟩ := fun t r ht hr => World.cell?_setCells_out g _ _ wr _ (fun _ _ => by simp; omega)
          have hti : ∀ (t : Nat) (f : En), (cur.take i)[t]? = some f → t < i := fun t f hf => by
            have := (List.getElem?_eq_some_iff.1 hf).1
            rw [List.length_take] at this; omega
          exact ⟨fun t f hf => (hout t 0 (hti t f hf) (by omega)).trans (hT.c0 t f hf), fun t f hf => (hout t 1 (hti t f hf) (by omega)).trans (hT.c1 t f hf), fun t f hf => (hout t 2 (hti t f hf) (by omega)).trans (hT.c2 t f hf), fun o ho => by rw [World.frozen?_setCells]; exact hT.fz o ho⟩
        have hkf : Kp (fun b => b = g) w (wr.setCells g (i * 3) L) := hk.trans ⟨setCells_os _ _ _ _, setCells_tape _ _ _ _, setCells_out _ _ _ _, by rw [setCells_size]; exact Nat.le_refl _, fun b hb hn => setCells_block g hn L _ wr⟩
        have HFL : Hid ((es.filter live).length = i) := hfl
        clear hfl hfin hje
        go_wp2_with fail
        go_ret
        exact ⟨by rw [HFL.out]; rfl, hRf, hkf⟩
end Go.Proofs.YbulkdlaoFmt
