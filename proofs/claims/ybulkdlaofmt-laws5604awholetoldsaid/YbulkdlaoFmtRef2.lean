import Derived.Test.YbulkdlaoFmtTab
namespace Go.Proofs.YbulkdlaoFmt
set_option linter.unusedVariables false
set_option linter.unusedSimpArgs false
open Go.RowKit
open Go.Sort (grow)
attribute [local go_sem ↓] Go.wp_at_zero Go.wp_at_succ

/-- Where the id before entry i stands in the list of names, 0 for none. -/
def pvOf (es : List En) (i : Nat) : Nat := if i = 0 then 0 else (es[i - 1]?.map (fun e => e.k + 1)).getD 0
def refm (es : List En) (i : Nat) (e : En) : En := { e with f := fo (pvOf es i) e.k }

theorem CW.rw {w w' : World} {C g cap : Nat} {a : Option Addr} {ids : ByteArray} {es es' : List En} (h : CW w C g cap a ids es) (h0 : w'.cell? ⟨C, 0, none⟩ = some (.slice a es.length cap)) (h1 : w'.cell? ⟨C, 1, none⟩ = some (.string ids)) (hr : RW w' g es') (hl : es'.length = es.length) (ho : ∀ e, e ∈ es' → Ok ids e) : CW w' C g cap a ids es' where
  p0 := by rw [hl]; exact h0
  p1 := h1
  form := fun hp => h.form (by omega)
  c0 := hr.c0
  c1 := hr.c1
  c2 := hr.c2
  ok := ho
  isz := h.isz
  len := by rw [hl]; exact h.len

theorem RW.setF {w : World} {g : Nat} {cur : List En} (h : RW w g cur) {i : Nat} {e : En} (he : cur[i]? = some e) (f : Int) : RW (w.setCell ⟨g, i * 3, none⟩ (.int .u64 f)) g (cur.set i { e with f := f }) := by
  have hi := (List.getElem?_eq_some_iff.1 he).1
  have hin : ∀ j, j < 1 → (w.cell? ⟨g, i * 3 + j, none⟩).isSome = true := fun j hj => by
    have : j = 0 := by omega
    subst this
    rw [Nat.add_zero, h.c0 i _ he]; rfl
  have hs : w.setCell ⟨g, i * 3, none⟩ (.int .u64 f) = w.setCells g (i * 3) [.int .u64 f] := rfl
  have hnew := World.cell?_setCells_in g [.int .u64 f] (i * 3) w hin 0 (by simp)
  have hout : ∀ o, o ≠ i * 3 → (w.setCells g (i * 3) [.int .u64 f]).cell? ⟨g, o, none⟩ = w.cell? ⟨g, o, none⟩ := fun o ho => World.cell?_setCells_out g _ _ w _ (fun _ _ => by simp; omega)
  rw [hs]
  refine ⟨fun t x hx => ?_, fun t x hx => ?_, fun t x hx => ?_, fun o ho => ?_⟩
  · rw [List.getElem?_set] at hx
    by_cases ht : i = t
    · subst ht
      simp [hi] at hx
      subst hx
      exact hnew
    · rw [if_neg ht] at hx
      exact (hout _ (by omega)).trans (h.c0 t x hx)
  · rw [List.getElem?_set] at hx
    by_cases ht : i = t
    · subst ht
      simp [hi] at hx
      subst hx
      exact (hout _ (by omega)).trans (h.c1 i e he)
    · rw [if_neg ht] at hx
      exact (hout _ (by omega)).trans (h.c1 t x hx)
  · rw [List.getElem?_set] at hx
    by_cases ht : i = t
    · subst ht
      simp [hi] at hx
      subst hx
      exact (hout _ (by omega)).trans (h.c2 i e he)
    · rw [if_neg ht] at hx
      exact (hout _ (by omega)).trans (h.c2 t x hx)
  · rw [World.frozen?_setCells]
    exact h.fz o (by rw [List.length_set] at ho; exact ho)

theorem pvOf_lt {ids : ByteArray} {es : List En} (ho : ∀ e, e ∈ es → Ok ids e) (i : Nat) : pvOf es i < 13 := by
  unfold pvOf
  split
  · omega
  · cases h : es[i - 1]? with
    | none => simp
    | some e =>
      have := (ho e (List.mem_of_getElem? h)).k
      simp; omega

set_option maxRecDepth 20000 in
set_option maxHeartbeats 1000000 in
theorem reform_any {w : World} {C g cap : Nat} {a : Option Addr} {ids : ByteArray} {es : List En} (h : CW w C g cap a ids es) (hr : RW w g es) (hCg : C ≠ g) {i : Nat} {e : En} (he : es[i]? = some e) :
    Calls Ybaf.prog 33 #[.pointer (some ⟨C, 0, none⟩), .int .i64 i] w fun r w' => r = .returned (.tuple #[]) ∧ CW w' C g cap a ids (es.set i (refm es i e)) ∧ RW w' g (es.set i (refm es i e)) ∧ Kp (fun b => b = g) w w' := by
  have hil : i < es.length := (List.getElem?_eq_some_iff.1 he).1
  obtain rfl := h.form (by omega)
  have hCl := block_lt_of_cell h.p0
  have hgl := hr.lt (by omega)
  have hpl := pvOf_lt h.ok i
  have hk := (h.ok e (List.mem_of_getElem? he)).k
  go_enter Ybaf.func33, Ybaf.ntmps33
  go_upto_if 6 with fail
  go_cut [4] from 5 to 10 (fun pvv wc => pvv = .string (pv (pvOf es i)) ∧ Below w.heap.size w wc)
  case first =>
    by_cases hi0 : 0 < i
    · have hi0' : (0 : Int) < (i : Int) := by omega
      obtain ⟨m, hm⟩ : ∃ m, m = i - 1 := ⟨_, rfl⟩
      obtain ⟨x, hx⟩ : ∃ x, es[m]? = some x := ⟨_, List.getElem?_eq_getElem (by omega)⟩
      have HP : Hid (pv (pvOf es i) = nm x.k) := by
        show pv (pvOf es i) = nm x.k
        unfold pvOf
        rw [if_neg (by omega), ← hm, hx]
        simp [pv]
      have hmi : (i : Int) - 1 = (m : Int) := by omega
      have hc := cid_any h hx
      have hwm : wrap64 (m : Int) = (m : Int) := by have := h.len; unfold wrap64; omega
      clear hm
      go_wp2_with fail
      with_reducible refine hc.mono ?_
      rintro r w1 ⟨rfl, hb1⟩
      go_wp2_with fail
      go_meet
      case rel => exact ⟨by rw [HP.out], hb1⟩
    · have hi0' : ¬ (0 : Int) < (i : Int) := by omega
      have hz : i = 0 := by omega
      have HP : Hid (pv (pvOf es i) = ⟨#[]⟩) := by show pv (pvOf es i) = _; rw [hz]; rfl
      clear hz
      go_wp2_with fail
      go_meet
      case rel => exact ⟨by rw [HP.out], Below.refl _ _⟩
  case rest =>
    obtain ⟨rfl, hb0⟩ := hcut
    have h0 := h.below hb0
    have hr0 : RW wc g es := hr.block (hb0.block g hgl)
    have hgl0 : g < wc.heap.size := Nat.lt_of_lt_of_le hgl hb0.size
    have hCl0 : C < wc.heap.size := Nat.lt_of_lt_of_le hCl hb0.size
    have hcr : ∀ w', Below wc.heap.size wc w' → CW w' C g cap (some ⟨g, 0, none⟩) ids es := fun w' hb' => h0.below hb'
    have hrr : ∀ w', Below wc.heap.size wc w' → RW w' g es := fun w' hb' => hr0.block (hb'.block g hgl0)
    have hd : Below wc.heap.size wc wc.drew := (Below.refl _ _).drew
    have hi1 : (i : Int) < (es.length : Int) := by omega
    have hi0 : (0 : Int) ≤ (i : Int) := by omega
    have hps : (pv (pvOf es i)).size ≤ 100 := by
      unfold pv
      split
      · decide
      · have := nm_size (pvOf es i - 1); omega
    have hns : (nm e.k).size ≤ 100 := by have := nm_size e.k; omega
    have q0 := h0.p0
    go_wp2_with fail
    go_region_held3 (fun w' => w'.cell? ⟨C, 0, none⟩ = some (.slice (some ⟨g, 0, none⟩) es.length cap))
      (first
        | exact q0
        | exact (hcr _ hb2).p0
        | exact (hcr _ hb1).p0
        | exact (World.cell?_of_block (RowKit.Below.heap_setCell _ _ _ _ hCg)).trans (hcr _ hb2).p0)
      (first
        | (go_at_call 49; refine (cid_any (hcr _ hd) he).mono ?_; rintro r w1 ⟨rfl, hb1'⟩; have hb1 : Below wc.heap.size wc w1 := hd.trans hb1')
        | (go_at_call 50; refine (fo_any (pv (pvOf es i)) (nm e.k) _ hps hns).mono ?_; rintro r w2 ⟨rfl, hb2'⟩; have hb2 : Below wc.heap.size wc w2 := hb1.trans (hb2'.mono hb1.size); have s0 := (hrr _ hb2).c0 i e he; have s1 := (hrr _ hb2).fz (i * 3) (by omega)))
    go_wp2_with fail
    have hok : ∀ x, x ∈ es.set i (refm es i e) → Ok ids x := fun x hx => by
      rcases List.mem_or_eq_of_mem_set hx with hx | rfl
      · exact h.ok x hx
      · have ho := h.ok e (List.mem_of_getElem? he)
        obtain ⟨f1, f2⟩ := fo_ok hpl hk
        exact ⟨ho.k, f1, f2, ho.fits, ho.id⟩
    have hRf : RW (w2.setCell ⟨g, i * 3, none⟩ (.int .u64 (fo (pvOf es i) e.k))) g (es.set i (refm es i e)) := (hrr _ hb2).setF he _
    have hne : ∀ o, (w2.setCell ⟨g, i * 3, none⟩ (.int .u64 (fo (pvOf es i) e.k))).cell? ⟨C, o, none⟩ = w2.cell? ⟨C, o, none⟩ := fun o => World.cell?_of_block (RowKit.Below.heap_setCell _ _ _ _ hCg)
    have hkf : Kp (fun b => b = g) w (w2.setCell ⟨g, i * 3, none⟩ (.int .u64 (fo (pvOf es i) e.k))) := Kp.setCell (T := fun b => b = g) ((Kp.ofBelow hb0).trans (Kp.ofBelow hb2)) (.inl rfl) _
    go_end0
    exact ⟨rfl, h.rw ((hne 0).trans (hcr _ hb2).p0) ((hne 1).trans (hcr _ hb2).p1) hRf (by rw [List.length_set]) hok, hRf, hkf⟩
end Go.Proofs.YbulkdlaoFmt
