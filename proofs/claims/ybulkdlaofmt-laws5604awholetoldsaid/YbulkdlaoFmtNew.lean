import Derived.Test.YbulkdlaoFmtSort2
namespace Go.Proofs.YbulkdlaoFmt
set_option linter.unusedVariables false
set_option linter.unusedSimpArgs false
open Go.RowKit
open Go.Sort (grow)
attribute [local go_sem ↓] Go.wp_at_zero Go.wp_at_succ

def nmB : Bool := (List.range 12).all fun x => (List.range 12).all fun y => ((nm x).toList == (nm y).toList) == (x == y)
theorem nmOk : nmB = true := by kernel_rfl
theorem nm_eq {x y : Nat} (hx : x < 12) (hy : y < 12) : ((nm x).toList == (nm y).toList) = decide (x = y) := by
  have h := nmOk
  unfold nmB at h
  have h1 := List.all_eq_true.1 h x (List.mem_range.2 hx)
  have h2 := List.all_eq_true.1 h1 y (List.mem_range.2 hy)
  rw [eq_of_beq h2]
  by_cases e : x = y
  · simp [e]
  · simp [e]

theorem boxset {w : World} {K0 : Nat} {cur : Array Value} {t : TypeId} {fr : Nat × Nat} (h : w.heap[K0]? = some (.cells cur t fr)) (o : Nat) (v : Value) : (w.setCell ⟨K0, o, none⟩ v).heap[K0]? = some (.cells (cur.setIfInBounds o v) t fr) := by
  simp [World.setCell, Array.getElem?_modify, h]

/-- What newClock makes of a list of entries: the live ones, sorted, their forms laid. -/
structure NC (ids : ByteArray) (es es3 : List En) : Prop where
  ok : ∀ e, e ∈ es3 → Ok ids e
  len : es3.length ≤ 12
  srt : ∀ (i j : Nat) (x y : En), i < j → es3[i]? = some x → es3[j]? = some y → rk x.k < rk y.k
  frm : ∀ (t : Nat) (x : En), es3[t]? = some x → x.f = fo (pvOf es3 t) x.k
  mem : ∀ k n, (∃ e, e ∈ es3 ∧ e.k = k ∧ e.n = n) ↔ n ≠ 0 ∧ ∃ e, e ∈ es ∧ e.k = k ∧ e.n = n
  le : es3.length ≤ es.length

def Fm (es2 es3 : List En) (i : Nat) : Prop := ∀ (t : Nat) (x : En), es3[t]? = some x → ∃ y, es2[t]? = some y ∧ x.k = y.k ∧ x.n = y.n ∧ (t < i → x.f = fo (pvOf es3 t) x.k)

theorem pvOf_set {es : List En} {i : Nat} {e e' : En} (he : es[i]? = some e) (hk : e'.k = e.k) (t : Nat) : pvOf (es.set i e') t = pvOf es t := by
  unfold pvOf
  split
  · rfl
  · rw [List.getElem?_set]
    by_cases h : i = t - 1
    · subst h
      rw [if_pos rfl, he, if_pos (List.getElem?_eq_some_iff.1 he).1]
      simp [hk]
    · rw [if_neg h]

theorem Fm.step {es2 es3 : List En} {i : Nat} {e : En} (h : Fm es2 es3 i) (he : es3[i]? = some e) : Fm es2 (es3.set i (refm es3 i e)) (i + 1) := by
  intro t x hx
  rw [List.getElem?_set] at hx
  by_cases ht : i = t
  · subst ht
    simp [(List.getElem?_eq_some_iff.1 he).1] at hx
    subst hx
    obtain ⟨y, h1, h2, h3, _⟩ := h i e he
    exact ⟨y, h1, h2, h3, fun _ => by rw [pvOf_set (e' := refm es3 i e) he rfl]; rfl⟩
  · rw [if_neg ht] at hx
    obtain ⟨y, h1, h2, h3, h4⟩ := h t x hx
    exact ⟨y, h1, h2, h3, fun hlt => by rw [pvOf_set (e' := refm es3 i e) he rfl]; exact h4 (by omega)⟩

theorem cwOf {w : World} {C g cap : Nat} {ids : ByteArray} {es : List En} (hb : w.heap[C]? = some (.cells #[.slice (some ⟨g, 0, none⟩) es.length cap, .string ids] 26)) (hr : RW w g es) (ho : ∀ e, e ∈ es → Ok ids e) (hi : ids.size ≤ 1048576) (hl : es.length ≤ 12) : CW w C g cap (some ⟨g, 0, none⟩) ids es where
  p0 := by simp [World.cell?, hb]
  p1 := by simp [World.cell?, hb]
  form := fun _ => rfl
  c0 := hr.c0
  c1 := hr.c1
  c2 := hr.c2
  ok := ho
  isz := hi
  len := hl

/-- A sorted list with its live entries kept is a new clock's list. -/
theorem nc_of {ids : ByteArray} {es es1 es3 : List En} (hperm : es1.Perm es) (hsrt : ∀ (i j : Nat) (x y : En), i < j → es1[i]? = some x → es1[j]? = some y → rk x.k ≤ rk y.k) (hnd : (es1.map (·.k)).Nodup) (ho : ∀ e, e ∈ es1 → Ok ids e)
    (h3 : ∀ e, e ∈ es3 → Ok ids e) (hl : es3.length ≤ 12) (hl3 : es3.length = (es1.filter live).length) (hF : Fm (es1.filter live) es3 es3.length) : NC ids es es3 where
  ok := h3
  len := hl
  srt := fun i j x y hij hx hy => by
    have hP : es1.Pairwise (fun a b => rk a.k < rk b.k) := by
      rw [List.pairwise_iff_getElem]
      intro a b ha hb hab
      have h1 := hsrt a b _ _ hab (List.getElem?_eq_getElem ha) (List.getElem?_eq_getElem hb)
      have h2 : es1[a].k ≠ es1[b].k := by
        have := List.pairwise_iff_getElem.1 hnd a b (by simpa using ha) (by simpa using hb) hab
        simpa using this
      have h4 := (cmp_rk (ho _ (List.getElem_mem ha)).k (ho _ (List.getElem_mem hb)).k).2
      rcases Nat.lt_or_ge (rk es1[a].k) (rk es1[b].k) with h | h
      · exact h
      · exact absurd (h4 (by omega)) h2
    have hP2 := hP.filter live
    obtain ⟨x2, hx2, ex, _⟩ := hF i x hx
    obtain ⟨y2, hy2, ey, _⟩ := hF j y hy
    obtain ⟨l1, e1⟩ := List.getElem?_eq_some_iff.1 hx2
    obtain ⟨l2, e2⟩ := List.getElem?_eq_some_iff.1 hy2
    have := List.pairwise_iff_getElem.1 hP2 i j l1 l2 hij
    rw [e1, e2] at this
    rw [ex, ey]; exact this
  frm := fun t x hx => by
    obtain ⟨_, _, _, _, h⟩ := hF t x hx
    exact h (List.getElem?_eq_some_iff.1 hx).1
  mem := fun k n => by
    constructor
    · rintro ⟨e, he, rfl, rfl⟩
      obtain ⟨t, ht⟩ := List.mem_iff_getElem?.1 he
      obtain ⟨y, hy, ek, en, _⟩ := hF t e ht
      have hy2 := List.mem_filter.1 (List.mem_of_getElem? hy)
      refine ⟨?_, y, hperm.mem_iff.1 hy2.1, ek.symm, en.symm⟩
      rw [en]; simpa [live] using hy2.2
    · rintro ⟨hn, e, he, rfl, rfl⟩
      have h1 : e ∈ es1.filter live := List.mem_filter.2 ⟨hperm.mem_iff.2 he, by simpa [live] using hn⟩
      obtain ⟨t, ht⟩ := List.mem_iff_getElem?.1 h1
      have htl : t < es3.length := by rw [hl3]; exact (List.getElem?_eq_some_iff.1 ht).1
      obtain ⟨y, hy, ek, en, _⟩ := hF t es3[t] (List.getElem?_eq_getElem htl)
      rw [ht] at hy
      cases hy
      exact ⟨es3[t], List.getElem_mem htl, ek, en⟩
  le := by rw [hl3, ← hperm.length_eq]; exact List.length_filter_le _ _

theorem N2lt {w : World} {b : Nat} {o : Obj} (h : w.heap[b]? = some o) : b < w.heap.size := (Array.getElem?_eq_some_iff.1 h).1
theorem World.heap_drewN' (w : World) (n : Nat) : (w.drewN n).heap = w.heap := rfl

set_option maxRecDepth 20000 in
set_option maxHeartbeats 2000000 in
theorem new_any {w : World} {g cap : Nat} {ids : ByteArray} {es : List En} (hr : RW w g es) (hl : 0 < es.length) (h12 : es.length ≤ 12) (hcap : es.length ≤ cap) (hcm : cap ≤ maxLen) (ho : ∀ e, e ∈ es → Ok ids e) (hi : ids.size ≤ 1048576) (hnd : (es.map (·.k)).Nodup) :
    Calls Ybaf.prog 16 #[.slice (some ⟨g, 0, none⟩) es.length cap, .string ids] w fun r w' => ∃ es3, r = .returned (.tuple #[.agg #[.slice (some ⟨g, 0, none⟩) es3.length cap, .string ids], .nilIface]) ∧ RW w' g es3 ∧ NC ids es es3 ∧ Kp (fun b => b = g) w w' := by
  have hg := hr.lt hl
  obtain ⟨wA, hwA⟩ : ∃ wA, wA = (w.alloc (.cells #[.string ids] 9)).alloc (.cells #[.slice none 0 0, .string ⟨#[]⟩] 26) := ⟨_, rfl⟩
  have hbA : Below w.heap.size w wA := by rw [hwA]; exact ((Below.refl _ w).alloc (Nat.le_refl _) _).alloc (by simp) _
  obtain ⟨I, hI⟩ : ∃ I, I = w.heap.size := ⟨_, rfl⟩
  obtain ⟨C0, hC0⟩ : ∃ C0, C0 = w.heap.size + 1 := ⟨_, rfl⟩
  have hIb : wA.heap[I]? = some (.cells #[.string ids] 9) := by
    rw [hwA, hI, RowKit.Below.heap_alloc _ _ _ (by simp)]; exact heap_alloc_new _ _
  have hCb : wA.heap[C0]? = some (.cells #[.slice none 0 0, .string ⟨#[]⟩] 26) := by
    rw [hwA, hC0]
    have := heap_alloc_new (w.alloc (.cells #[.string ids] 9)) (.cells #[.slice none 0 0, .string ⟨#[]⟩] 26)
    simpa using this
  have cI : wA.cell? ⟨I, 0, none⟩ = some (.string ids) := by simp [World.cell?, hIb]
  have hrA : RW wA g es := hr.block (hbA.block g hg)
  have hIg : I ≠ g := by omega
  have hCg : C0 ≠ g := by omega
  have hsort := sort_any (cap := cap) hrA hl h12 ho hi cI hIg
  go_enter Ybaf.func16, Ybaf.ntmps16
  go_wp2_with fail
  rw [← hwA, ← hC0, ← hI]
  with_reducible refine hsort.mono ?_
  rintro r wS ⟨rfl, es1, hperm, hsrt, hrS, hkS⟩
  have hl1 : es1.length = es.length := hperm.length_eq
  have ho1 : ∀ e, e ∈ es1 → Ok ids e := fun e he => ho e (hperm.mem_iff.1 he)
  have hnd1 : (es1.map (·.k)).Nodup := (hperm.map (·.k)).nodup_iff.2 hnd
  have hIs : wS.heap[I]? = some (.cells #[.string ids] 9) := (hkS.block I (N2lt hIb) hIg).trans hIb
  have hCs : wS.heap[C0]? = some (.cells #[.slice none 0 0, .string ⟨#[]⟩] 26) := (hkS.block C0 (N2lt hCb) hCg).trans hCb
  have hgS : g < wS.heap.size := Nat.lt_of_lt_of_le (Nat.lt_of_lt_of_le hg hbA.size) hkS.size
  have hkw : Kp (fun b => b = g) w wS := (Kp.ofBelow hbA).trans hkS
  have HI : Hid (w.heap.size ≤ I ∧ w.heap.size ≤ C0 ∧ I ≠ C0) := ⟨by omega, by omega, by omega⟩
  clear hsort hrA cI hIb hCb hwA hbA hI hC0 hkS
  go_wp2_with fail
  go_loopw [6, 7] (fun iv _ wr => ∃ i : Nat, iv = .int .i64 i ∧ 1 ≤ i ∧ i ≤ es.length ∧ Below wS.heap.size wS wr) (fun iv _ _ => es.length - (intOf iv).toNat)
  case atStart => exact ⟨1, rfl, Nat.le_refl _, by omega, Below.refl _ _⟩
  case round =>
    obtain ⟨i, rfl, hi1, hi2, hb⟩ := hrel
    have hrr : RW wr g es1 := hrS.block (hb.block g hgS)
    have hIr : wr.heap[I]? = some (.cells #[.string ids] 9) := (hb.block I (N2lt hIs)).trans hIs
    have hCr : wr.heap[C0]? = some (.cells #[.slice none 0 0, .string ⟨#[]⟩] 26) := (hb.block C0 (N2lt hCs)).trans hCs
    have cI : wr.cell? ⟨I, 0, none⟩ = some (.string ids) := by simp [World.cell?, hIr]
    by_cases hil : i < es.length
    · --BEGIN1
      have hii : (i : Int) < (es.length : Int) := by omega
      obtain ⟨m, hm⟩ : ∃ m, m = i - 1 := ⟨_, rfl⟩
      have hmi : (i : Int) - 1 = (m : Int) := by omega
      have hmw : IntKind.i64.wrap ((i : Int) - 1) = (m : Int) := by rw [wrap_id (by omega) (by omega)]; omega
      have hml : (m : Int) < (es.length : Int) := by omega
      obtain ⟨x, hx⟩ : ∃ x, es1[i]? = some x := ⟨_, List.getElem?_eq_getElem (by omega)⟩
      obtain ⟨y, hy⟩ : ∃ y, es1[m]? = some y := ⟨_, List.getElem?_eq_getElem (by omega)⟩
      have hxy : x.k ≠ y.k := fun e => by
        have h1 : (es1.map (·.k))[i]? = some x.k := by simp [hx]
        have h2 : (es1.map (·.k))[m]? = some x.k := by simp [hy, e]
        obtain ⟨l1, e1⟩ := List.getElem?_eq_some_iff.1 h1
        obtain ⟨l2, e2⟩ := List.getElem?_eq_some_iff.1 h2
        have := List.pairwise_iff_getElem.1 hnd1 m i l2 l1 (by omega)
        exact this (e2.trans e1.symm)
      have hox := ho1 x (List.mem_of_getElem? hx)
      have hoy := ho1 y (List.mem_of_getElem? hy)
      have hne := nm_eq hox.k hoy.k
      rw [decide_eq_false hxy] at hne
      have cX := fun n => Calls.quiet_of (id_q hox hi g (i * 3) (wr.drewN n) (hrr.c0 i x hx) (hrr.c2 i x hx))
      have cY := fun (W : World) (hW : W.heap = wr.heap) n => Calls.quiet_of (id_q hoy hi g (m * 3) (W.drewN n) ((World.cell?_of_block (w := wr) (by rw [World.heap_drewN', hW])).trans (hrr.c0 m y hy)) ((World.cell?_of_block (w := wr) (by rw [World.heap_drewN', hW])).trans (hrr.c2 m y hy)))
      clear hxy hm hx hy
      go_wp2_with fail
      go_quiet ((go_at_call 30; with_reducible exact cX _))
      obtain ⟨wq, hwq⟩ : ∃ wq, wq = wr.drewN nq := ⟨_, rfl⟩
      rw [← hwq]
      have hbq : Below wS.heap.size wS wq := by rw [hwq]; exact hb.trans ((below_drewN wr nq).mono hb.size)
      have cY2 := cY wq (by rw [hwq]; rfl)
      have cIq : wq.cell? ⟨I, 0, none⟩ = some (.string ids) := by rw [hwq]; exact cI
      clear cX cY hwq cI
      go_wp2_with fail
      go_quiet ((go_at_call 30; with_reducible exact cY2 _))
      go_wp2_with fail
      go_roundw
      case rel => exact ⟨i + 1, by go_num, by omega, by omega, hbq.trans ((below_drewN wq _).mono hbq.size)⟩
      case measure => simp [intOf]; omega
      --END1
    · have hii : ¬ (i : Int) < (es.length : Int) := by omega
      have hdel : ∀ W, Kp (fun _ => False) wr W → Calls Ybaf.prog 31 #[.slice (some ⟨g, 0, none⟩) es.length cap, .func (.func 32) #[] #[]] W fun r w' => r = .returned (.slice (some ⟨g, 0, none⟩) (es1.filter live).length cap) ∧ RW w' g (es1.filter live) ∧ Kp (fun b => b = g) W w' := fun W hW => by
        have := del_any (cap := cap) (hrr.kp hW (Nat.lt_of_lt_of_le hgS hb.size) id) (by omega) (by omega) (by omega) hcm
        rw [hl1] at this
        exact this
      go_upto_region 8 with fail
      have hgr : g < wr.heap.size := Nat.lt_of_lt_of_le hgS hb.size
      have hkr : Kp (fun b => b = g) w wr := hkw.trans (Kp.ofBelow hb)
      have hIl := N2lt hIr
      have hCl := N2lt hCr
      have hof : ∀ e, e ∈ es1.filter live → Ok ids e := fun e he => ho1 e (List.mem_filter.1 he).1
      have hlf : (es1.filter live).length ≤ 12 := Nat.le_trans (List.length_filter_le _ _) (by omega)
      generalize hes2 : es1.filter live = es2 at *
      go_cut [8] from 37 to 40 (fun pv wc => ∃ C, pv = .pointer (some ⟨C, 0, none⟩) ∧ C ≠ g ∧ C ≠ C0 ∧ CW wc C g cap (some ⟨g, 0, none⟩) ids es2 ∧ RW wc g es2 ∧ Kp (fun b => b = g) w wc ∧ wc.heap[C0]? = some (.cells #[.slice none 0 0, .string ⟨#[]⟩] 26))
      case first =>
        --BEGIN2
        have hneg : ¬ wr.heap.size = g := by omega
        have hd0 : Kp (fun _ => False) wr wr.drew := (Kp.refl _ _).drew
        have hd1 : Kp (fun _ => False) wr (wr.alloc (.cells #[.slice none 0 0, .string ⟨#[]⟩] 26)).drew := ((Kp.refl _ _).alloc _).drew
        have hna : (wr.alloc (.cells #[.slice none 0 0, .string ⟨#[]⟩] 26)).drew.heap[wr.heap.size]? = some (.cells #[.slice none 0 0, .string ⟨#[]⟩] 26) := heap_alloc_new _ _
        have hca : (wr.alloc (.cells #[.slice none 0 0, .string ⟨#[]⟩] 26)).drew.cell? ⟨I, 0, none⟩ = some (.string ids) := hd1.cell cI id
        go_region_held3 (fun w' => w'.cell? ⟨I, 0, none⟩ = some (.string ids))
          (first
            | exact cI
            | exact hca
            | exact hI1
            | exact (RowKit.Below.cell (RowKit.Below.alloc (RowKit.Below.refl _ _) (Nat.le_refl _) _) (block_lt_of_cell hI1)).trans hI1
            | exact (World.cell?_of_block ((RowKit.Below.heap_setCell _ _ _ _ (Nat.ne_of_lt hIl)).trans (RowKit.Below.heap_setCell _ _ _ _ (Nat.ne_of_lt hIl)))).trans hI1)
          (first
            | (go_at_call 31; with_reducible refine (hdel _ hd0).mono ?_; rintro r w1 ⟨rfl, hR1, hk1⟩; have hI1 : w1.cell? ⟨I, 0, none⟩ = some (.string ids) := hk1.cell (hd0.cell cI id) hIg)
            | (go_at_call 31; with_reducible refine (hdel _ hd1).mono ?_; rintro r w1 ⟨rfl, hR1, hk1⟩; have hI1 : w1.cell? ⟨I, 0, none⟩ = some (.string ids) := hk1.cell hca hIg; have hz1 : w1.heap[wr.heap.size]? = some (.cells #[.slice none 0 0, .string ⟨#[]⟩] 26) := (hk1.block _ (N2lt hna) hneg).trans hna; have z0 : w1.cell? ⟨wr.heap.size, 0, none⟩ = some (.slice none 0 0) := (by simp [World.cell?, hz1]); have z1 : w1.cell? ⟨wr.heap.size, 1, none⟩ = some (.string ⟨#[]⟩) := (by simp [World.cell?, hz1]); have f0 : w1.frozen? ⟨wr.heap.size, 0, none⟩ = false := (by simp [World.frozen?, hz1]); have f1 : w1.frozen? ⟨wr.heap.size, 1, none⟩ = false := (by simp [World.frozen?, hz1])))
        · go_wp2_with fail
          go_meet
          case rel =>
            have hg1 : g < w1.heap.size := Nat.lt_of_lt_of_le hgr hk1.size
            have hC1 : w1.heap[C0]? = some (.cells #[.slice none 0 0, .string ⟨#[]⟩] 26) := (hk1.block C0 hCl hCg).trans hCr
            have hR2 : RW (w1.alloc (.cells #[.slice (some ⟨g, 0, none⟩) es2.length cap, .string ids] 26)) g es2 := hR1.block (RowKit.Below.heap_alloc _ _ _ hg1)
            exact ⟨w1.heap.size, rfl, by omega, by have := N2lt hC1; omega, cwOf (heap_alloc_new _ _) hR2 hof hi hlf, hR2, (hkr.trans ((hd0.wider (fun _ _ h => h.elim)).trans hk1)).alloc _, (RowKit.Below.heap_alloc _ _ _ (N2lt hC1)).trans hC1⟩
        · go_wp2_with fail
          go_meet
          case rel =>
            have hC1 : w1.heap[C0]? = some (.cells #[.slice none 0 0, .string ⟨#[]⟩] 26) := (hk1.block C0 (by simp; omega) hCg).trans ((RowKit.Below.heap_alloc _ _ _ hCl).trans hCr)
            have hbx := boxset (boxset hz1 0 (.slice (some ⟨g, 0, none⟩) es2.length cap)) 1 (.string ids)
            have hoth : ∀ b, b ≠ wr.heap.size → ((w1.setCell ⟨wr.heap.size, 0, none⟩ (.slice (some ⟨g, 0, none⟩) es2.length cap)).setCell ⟨wr.heap.size, 1, none⟩ (.string ids)).heap[b]? = w1.heap[b]? := fun b hb' => (RowKit.Below.heap_setCell _ _ _ _ hb').trans (RowKit.Below.heap_setCell _ _ _ _ hb')
            have hR2 := hR1.block (hoth g (by omega))
            have hkk : Kp (fun b => b = g) w ((w1.setCell ⟨wr.heap.size, 0, none⟩ (.slice (some ⟨g, 0, none⟩) es2.length cap)).setCell ⟨wr.heap.size, 1, none⟩ (.string ids)) := by
              have h1 : Kp (fun b => b = g) w w1 := hkr.trans ((hd1.wider (fun _ _ h => h.elim)).trans hk1)
              exact (h1.setCell (a := ⟨wr.heap.size, 0, none⟩) (.inr hkr.size) _).setCell (a := ⟨wr.heap.size, 1, none⟩) (.inr hkr.size) _
            exact ⟨wr.heap.size, rfl, by omega, by omega, cwOf hbx hR2 hof hi hlf, hR2, hkk, (hoth C0 (by omega)).trans hC1⟩
        --END2
      case rest =>
        obtain ⟨C, rfl, hCg2, hCC, hcw, hrw, hkc, hC0c⟩ := hcut
        have HE2 : Hid (es1.filter live = es2) := hes2
        clear hes2 hdel hrr hIr hCr cI hb hgr hkr hIl hCl hrS hIs hCs hgS hkw
        have q0 := hcw.p0
        go_wp2_with fail
        go_loopw [44] (fun iv wr => ∃ (i : Nat) (es3 : List En), iv = .int .i64 i ∧ i ≤ es2.length ∧ es3.length = es2.length ∧ CW wr C g cap (some ⟨g, 0, none⟩) ids es3 ∧ RW wr g es3 ∧ Kp (fun b => b = g) w wr ∧ wr.heap[C0]? = some (.cells #[.slice none 0 0, .string ⟨#[]⟩] 26) ∧ Hid (Fm es2 es3 i)) (fun iv _ => es2.length - (intOf iv).toNat)
        case atStart => exact ⟨0, es2, rfl, Nat.zero_le _, rfl, hcw, hrw, hkc, hC0c, fun t x hx => ⟨x, hx, rfl, rfl, fun h => by omega⟩⟩
        case round =>
          clear hcw hrw hkc hC0c q0
          obtain ⟨i, es3, rfl, hi3, hl3, hcw, hrw, hkc, hC0c, hF⟩ := hrel
          by_cases hil : i < es2.length
          · have hii : (i : Int) < (es2.length : Int) := by omega
            obtain ⟨e, he⟩ : ∃ e, es3[i]? = some e := ⟨_, List.getElem?_eq_getElem (by omega)⟩
            have hrf := reform_any hcw hrw hCg2 he
            go_wp2_with fail
            with_reducible refine hrf.mono ?_
            rintro r w2 ⟨rfl, hc2, hr2, hk2⟩
            have hC2 : w2.heap[C0]? = some (.cells #[.slice none 0 0, .string ⟨#[]⟩] 26) := (hk2.block C0 (N2lt hC0c) hCg).trans hC0c
            go_wp2_with fail
            go_roundw
            case rel => exact ⟨i + 1, _, by go_num, by omega, by rw [List.length_set]; exact hl3, hc2, hr2, hkc.trans hk2, hC2, hF.out.step he⟩
            case measure => simp [intOf]; omega
          · have hii : ¬ (i : Int) < (es2.length : Int) := by omega
            have p0 := hcw.p0
            have p1 := hcw.p1
            have z0 : wr.cell? ⟨C0, 0, none⟩ = some (.slice none 0 0) := by simp [World.cell?, hC0c]
            have z1 : wr.cell? ⟨C0, 1, none⟩ = some (.string ⟨#[]⟩) := by simp [World.cell?, hC0c]
            have f0 : wr.frozen? ⟨C0, 0, none⟩ = false := by simp [World.frozen?, hC0c]
            have f1 : wr.frozen? ⟨C0, 1, none⟩ = false := by simp [World.frozen?, hC0c]
            have hNC : NC ids es es3 := nc_of hperm hsrt hnd1 ho1 hcw.ok (by omega) (by rw [HE2.out]; exact hl3) (by rw [HE2.out, show es3.length = i by omega]; exact hF.out)
            go_wp2_with fail
            rw [← hl3]
            have hb1 := boxset (boxset hC0c 0 (.slice (some ⟨g, 0, none⟩) es3.length cap)) 1 (.string ids)
            generalize hWW : ((wr.setCell ⟨C0, 0, none⟩ (.slice (some ⟨g, 0, none⟩) es3.length cap)).setCell ⟨C0, 1, none⟩ (.string ids)) = WW at *
            have hoth : ∀ b, b ≠ C0 → WW.heap[b]? = wr.heap[b]? := fun b hb' => by rw [← hWW]; exact (RowKit.Below.heap_setCell _ _ _ _ hb').trans (RowKit.Below.heap_setCell _ _ _ _ hb')
            have n0 : WW.cell? ⟨C0, 0, none⟩ = some (.slice (some ⟨g, 0, none⟩) es3.length cap) := by simp [World.cell?, hb1]
            have n1 : WW.cell? ⟨C0, 1, none⟩ = some (.string ids) := by simp [World.cell?, hb1]
            have hkf : Kp (fun b => b = g) w WW := by
              rw [← hWW]
              exact (hkc.setCell (a := ⟨C0, 0, none⟩) (.inr HI.out.2.1) _).setCell (a := ⟨C0, 1, none⟩) (.inr HI.out.2.1) _
            refine bodyPost_ret (v := .tuple #[.agg #[.slice (some ⟨g, 0, none⟩) es3.length cap, .string ids], .nilIface]) ?_ rfl ⟨es3, rfl, hrw.block (hoth g (Ne.symm hCg)), hNC, hkf⟩
            simp [results, Ybaf.results16, go_sem, n0, n1]
end Go.Proofs.YbulkdlaoFmt
