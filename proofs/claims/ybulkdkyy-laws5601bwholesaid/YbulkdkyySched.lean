import Derived.Test.YbulkdkyyPop
import Derived.Test.YbulkdkyyLocks
import Derived.Test.YbulkdkyySelect
import Derived.Deep.RegionWith
import Derived.Deep.Cut
import Derived.Deep.RegionHeld3
namespace Go.Proofs.Ybulkdkyy
set_option linter.unusedVariables false
set_option linter.unusedSimpArgs false
open Go.RowKit Go.MuLone

/-- (time.Time).Add(0). -/
theorem add_none (d : Int) (w : World) (hd : -9223372036854775808 ≤ d ∧ d ≤ 9223372036854775807) :
    Calls Yba.prog 14 #[.agg #[.int .u64 (nsOf d), .int .i64 (scOf d), .pointer none], .int .i64 0] w fun e w' => e = .returned (.agg #[.int .u64 (nsOf d), .int .i64 (scOf d), .pointer none]) ∧ Below w.heap.size w w' := by
  refine (add_any (nsOf d) (scOf d) 0 w (nsOf_lo d) (nsOf_hi d) (by unfold scOf; omega) (by omega)).mono ?_
  rintro e w' ⟨rfl, hb⟩
  refine ⟨?_, hb⟩
  have e1 : (nsOf d + 0) % 1000000000 = nsOf d := by unfold nsOf; omega
  have e2 : scOf d + (nsOf d + 0) / 1000000000 = scOf d := by unfold nsOf scOf; omega
  rw [e1, e2]

theorem lock_any {w : World} {S c : Nat} {v : Value} (h : Srv w S 0 v c) : Calls Yba.prog 12 #[.pointer (some ⟨S, 6, none⟩)] w fun e w' => e = .returned (.tuple #[]) ∧ Srv w' S 1 v c ∧ Kp (· = S) w w' := by
  refine (lock_free muLib ⟨S, 6, none⟩ w h.lock (h.frozen 6)).mono ?_
  rintro e w' ⟨rfl, rfl⟩
  exact ⟨rfl, h.setLock 1, (Kp.refl (fun x => x = S) w).setCell (.inl rfl) _⟩

theorem Sess.setDeadline {w : World} {b i : Nat} {d x : Int} (h : Sess w b i d x) (y : Int) :
    Sess (((w.setCell ⟨b, 18, none⟩ (.int .u64 (nsOf y))).setCell ⟨b, 19, none⟩ (.int .i64 (scOf y))).setCell ⟨b, 20, none⟩ (.pointer none)) b i y x := by
  obtain ⟨f, hr, h1, h2, h3, h4, h5⟩ := h
  exact ⟨_, ((hr.set 18 _).set 19 _).set 20 _, by simpa using h1, by simp, by simp, by simp, by simpa using h5⟩

namespace ChanOk
variable {w w' : World} {c : Nat}
theorem of_block (h : ChanOk w c) (e : w'.heap[c]? = w.heap[c]?) : ChanOk w' c := by obtain ⟨b, s, r, hb⟩ := h; exact ⟨b, s, r, e.trans hb⟩
theorem lt (h : ChanOk w c) : c < w.heap.size := by obtain ⟨b, s, r, hb⟩ := h; exact (Array.getElem?_eq_some_iff.1 hb).1
theorem ne_srv {S : Nat} {m : Int} {v : Value} {c' : Nat} (h : ChanOk w c) (hS : Srv w S m v c') : c ≠ S := by
  intro e; subst e
  obtain ⟨f, ⟨cc, hc, _⟩, _⟩ := hS
  obtain ⟨b, s, r, hb⟩ := h
  rw [hb] at hc; cases hc
theorem ne_sess {b i : Nat} {d x : Int} (h : ChanOk w c) (hS : Sess w b i d x) : c ≠ b := by
  intro e; subst e
  obtain ⟨f, ⟨cc, hc, _⟩, _⟩ := hS
  obtain ⟨b, s, r, hb⟩ := h
  rw [hb] at hc; cases hc
theorem ne_row {g : Nat} {cur : Array Value} {t : TypeId} {fr : Nat × Nat} (h : ChanOk w c) (hg : w.heap[g]? = some (.cells cur t fr)) : c ≠ g := by
  intro e; subst e
  obtain ⟨b, s, r, hb⟩ := h
  rw [hb] at hg; cases hg
end ChanOk

/-- The deadlines, session i's told anew. -/
def updD (d : Nat → Int) (i : Nat) (y : Int) : Nat → Int := fun j => if j = i then y else d j

theorem keyF_upd {d : Nat → Int} {q : List Nat} {i : Nat} (y : Int) (hn : i ∉ q) (p : Nat) (hp : p < q.length) : keyF (updD d i y) q p = keyF d q p := by
  unfold keyF updD
  have hne : q.getD p 0 ≠ i := fun e => hn (e ▸ getD_mem hp)
  rw [if_neg hne]

theorem HeapOn_congr {f f' : Nat → Int} {m : Nat} (h : HeapOn f m) (e : ∀ p, p < m → f' p = f p) : HeapOn f' m := fun c c0 cm => by rw [e c cm, e _ (by omega)]; exact h c c0 cm

theorem HV.setDeadline {w : World} {v : Value} {sb : Nat → Nat} {d : Nat → Int} {k : Nat} {q : List Nat} (h : HV w v sb d k q) {i : Nat} (hi : i < k) (hn : i ∉ q) (y : Int) :
    HV (((w.setCell ⟨sb i, 18, none⟩ (.int .u64 (nsOf y))).setCell ⟨sb i, 19, none⟩ (.int .i64 (scOf y))).setCell ⟨sb i, 20, none⟩ (.pointer none)) v sb (updD d i y) k q := by
  have hs := h.out i hi hn
  have hblk : ∀ b, b ≠ sb i → (((w.setCell ⟨sb i, 18, none⟩ (.int .u64 (nsOf y))).setCell ⟨sb i, 19, none⟩ (.int .i64 (scOf y))).setCell ⟨sb i, 20, none⟩ (.pointer none)).heap[b]? = w.heap[b]? := fun b hb => by
    rw [RowKit.Below.heap_setCell _ _ _ _ hb, RowKit.Below.heap_setCell _ _ _ _ hb, RowKit.Below.heap_setCell _ _ _ _ hb]
  refine ⟨?_, fun j hj => ?_, fun j hj hjn => ?_, h.ids, h.nodup, h.inj⟩
  · refine ⟨h.own.1, ?_⟩
    rcases h.own.2 with h0 | ⟨g, cap, cur, hv, hb0, hb, r⟩
    · exact .inl h0
    · exact .inr ⟨g, cap, cur, hv, hb0, (hblk g (fun e => hs.ne_row hb (by decide) e.symm)).trans hb, r⟩
  · have hne : q.getD j 0 ≠ i := fun e => hn (e ▸ getD_mem hj)
    have e : updD d i y (q.getD j 0) = d (q.getD j 0) := by unfold updD; rw [if_neg hne]
    rw [e]
    exact (h.inq j hj).of_block (hblk _ (fun e => hne (h.inj _ _ (h.ids _ (getD_mem hj)) hi e)))
  · by_cases e : j = i
    · subst e
      have e : updD d j y j = y := by simp [updD]
      rw [e]; exact hs.setDeadline y
    · have e2 : updD d i y j = d j := by unfold updD; rw [if_neg e]
      rw [e2]
      exact (h.out j hj hjn).of_block (hblk _ (fun e' => e (h.inj _ _ hj hi e')))

/-- Behind the select: the lock is given back. -/
theorem sched_end {w w4 w5 : World} {v u : Value} {g cap S c : Nat} {sb : Nat → Nat} {d : Nat → Int} {k : Nat} {q : List Nat} (h4 : HW w4 g cap sb d k q) (hS4 : Srv w4 S 1 u c) (hC4 : ChanOk w4 c)
    (hk5 : Kp (fun b => b = c) w4 w5) (hC5 : ChanOk w5 c) (hkk : Kp (Ts S v sb k) w w4) :
    w5.cell? ⟨S, 6, none⟩ = some (.int .i32 1) ∧ w5.frozen? ⟨S, 6, none⟩ = false ∧ HW (w5.setCell ⟨S, 6, none⟩ (.int .i32 0)) g cap sb d k q ∧ Srv (w5.setCell ⟨S, 6, none⟩ (.int .i32 0)) S 0 u c ∧ ChanOk (w5.setCell ⟨S, 6, none⟩ (.int .i32 0)) c ∧
      Kp (fun b => Ts S v sb k b ∨ b = c) w (w5.setCell ⟨S, 6, none⟩ (.int .i32 0)) := by
  have hcS := hC4.ne_srv hS4
  have hS5 := hS4.of_block (hk5.block _ hS4.lt (Ne.symm hcS))
  have hSs : ∀ j, j < k → sb j ≠ S := fun j hj e => by obtain ⟨x, hx⟩ := h4.any hj; exact hS4.ne_sess hx e.symm
  have hSg : S ≠ g := by obtain ⟨cur, hb, _⟩ := h4.row; exact hS4.ne_row hb (by decide)
  have h5 : HW w5 g cap sb d k q := h4.kp hk5 (by
    rintro b rfl (e | ⟨j, hj, e⟩)
    · obtain ⟨cur, hb, _⟩ := h4.row; exact hC4.ne_row hb e
    · obtain ⟨x, hx⟩ := h4.any hj; exact hC4.ne_sess hx e)
  refine ⟨hS5.lock, hS5.frozen 6, h5.of_blocks (RowKit.Below.heap_setCell _ _ _ _ (Ne.symm hSg)) (fun j hj => RowKit.Below.heap_setCell _ _ _ _ (hSs j hj)), hS5.setLock 0, hC5.of_block (RowKit.Below.heap_setCell _ _ _ _ hcS), ?_⟩
  exact ((hkk.wider (U := fun b => Ts S v sb k b ∨ b = c) (fun b _ hb => .inl hb)).trans (hk5.wider (fun b _ hb => .inr hb))).setCell (.inl (.inl (.inl rfl))) _

set_option maxRecDepth 10000 in
set_option maxHeartbeats 1000000 in
theorem sched_any {w : World} {v : Value} {sb : Nat → Nat} {d : Nat → Int} {k : Nat} {q : List Nat} (h : HV w v sb d k q) (S c i : Nat) (dl : Int) (hd : -9223372036854775808 ≤ dl ∧ dl ≤ 9223372036854775807)
    (hS : Srv w S 0 v c) (hC : ChanOk w c) (hi : i < k) (hn : i ∉ q) (hq : q.length + 1 ≤ 65536) (hh : HeapOn (keyF d q) q.length) :
    Calls Yba.prog 5 #[.pointer (some ⟨S, 0, none⟩), .pointer (some ⟨sb i, 0, none⟩), .agg #[.int .u64 (nsOf dl), .int .i64 (scOf dl), .pointer none]] w fun e w' => e = .returned (.tuple #[]) ∧
      ∃ g cap q', q'.Perm (q ++ [i]) ∧ HW w' g cap sb (updD d i dl) k q' ∧ Srv w' S 0 (.slice (some ⟨g, 0, none⟩) q'.length cap) c ∧ ChanOk w' c ∧ HeapOn (keyF (updD d i dl) q') q'.length ∧ Kp (fun b => Ts S v sb k b ∨ b = c) w w' ∧ (v.ownBlock = some g ∨ w.heap.size ≤ g) := by
  obtain ⟨wb, hwb⟩ : ∃ wb, wb = w.alloc (.cells #[.int .u64 (nsOf dl), .int .i64 (scOf dl), .pointer none] 49) := ⟨_, rfl⟩
  have x0 : wb.cell? ⟨w.heap.size, 0, none⟩ = some (.int .u64 (nsOf dl)) := by rw [hwb]; simp
  have x1 : wb.cell? ⟨w.heap.size, 1, none⟩ = some (.int .i64 (scOf dl)) := by rw [hwb]; simp
  have x2 : wb.cell? ⟨w.heap.size, 2, none⟩ = some (.pointer none) := by rw [hwb]; simp
  have hbb : Below w.heap.size w wb := by rw [hwb]; exact (Below.refl _ w).alloc (Nat.le_refl _) _
  have hSb : Srv wb S 0 v c := hS.of_block (hbb.block _ hS.lt)
  have hVb : HV wb v sb d k q := h.below hbb
  have hCb : ChanOk wb c := hC.of_block (hbb.block _ hC.lt)
  have hlt : w.heap.size < wb.heap.size := by rw [hwb]; simp
  have hne : w.heap.size ≠ S := by have := hS.lt; omega
  have hSs : ∀ j, j < k → sb j ≠ S := fun j hj e => by obtain ⟨x, hx⟩ := h.any hj; exact hS.ne_sess hx e.symm
  have hSg : v.ownBlock ≠ some S := fun e => by obtain ⟨cur, hb⟩ := h.row e; exact hS.ne_row hb (by decide) rfl
  have hcS : c ≠ S := hC.ne_srv hS
  have hcs : ∀ j, j < k → c ≠ sb j := fun j hj e => by obtain ⟨x, hx⟩ := h.any hj; exact hC.ne_sess hx e
  have hcg : v.ownBlock ≠ some c := fun e => by obtain ⟨cur, hb⟩ := h.row e; exact hC.ne_row hb rfl
  go_enter_defers Yba.func5, Yba.ntmps5
  go_wp2_with fail
  rw [← hwb]
  refine (lock_any hSb).mono ?_
  rintro e w1 ⟨rfl, hS1, hk1⟩
  have y0 : w1.cell? ⟨w.heap.size, 0, none⟩ = some (.int .u64 (nsOf dl)) := by rw [World.cell?_of_block (w := wb) (hk1.block _ hlt hne)]; exact x0
  have y1 : w1.cell? ⟨w.heap.size, 1, none⟩ = some (.int .i64 (scOf dl)) := by rw [World.cell?_of_block (w := wb) (hk1.block _ hlt hne)]; exact x1
  have y2 : w1.cell? ⟨w.heap.size, 2, none⟩ = some (.pointer none) := by rw [World.cell?_of_block (w := wb) (hk1.block _ hlt hne)]; exact x2
  have hV1 : HV w1 v sb d k q := hVb.kp hk1 (fun g hg e => hSg (by rw [hg, e])) hSs
  have hC1 : ChanOk w1 c := hCb.of_block (hk1.block _ hCb.lt hcS)
  have hs1 := hV1.out i hi hn
  have t1 := hS1.timeout
  clear x0 x1 x2 hwb
  go_wp2_with fail
  refine wp_region_noPanic ?_
  go_region_with (go_at_call 14; refine (add_none dl _ hd).mono ?_; rintro e w2 ⟨rfl, hb2⟩; have hs2 : Sess w2 (sb i) i (d i) (-1) := hs1.of_block (hb2.block _ hs1.lt); have z0 := hs2.dl0; have z1 := hs2.dl1; have z2 := hs2.dl2; have g0 := hs2.frozen 18; have g1 := hs2.frozen 19; have g2 := hs2.frozen 20)
  all_goals
    refine NoPanic.normal ?_
    have hb2' : Below w1.heap.size w1 w2 := ⟨hb2.os, hb2.tape, hb2.output, hb2.size, hb2.block⟩
    have hV2 : HV w2 v sb d k q := hV1.below hb2'
    have hS2 : Srv w2 S 1 v c := hS1.of_block (hb2'.block _ hS1.lt)
    have hC2 : ChanOk w2 c := hC1.of_block (hb2'.block _ hC1.lt)
    have hV3 := hV2.setDeadline hi hn dl
    have hk3 : Kp (fun b => b = sb i) w2 (((w2.setCell ⟨sb i, 18, none⟩ (.int .u64 (nsOf dl))).setCell ⟨sb i, 19, none⟩ (.int .i64 (scOf dl))).setCell ⟨sb i, 20, none⟩ (.pointer none)) :=
      (((Kp.refl (fun b => b = sb i) w2).setCell (.inl rfl) _).setCell (.inl rfl) _).setCell (.inl rfl) _
    clear hb2 z0 z1 z2 g0 g1 g2 hs2
    generalize ((w2.setCell ⟨sb i, 18, none⟩ (.int .u64 (nsOf dl))).setCell ⟨sb i, 19, none⟩ (.int .i64 (scOf dl))).setCell ⟨sb i, 20, none⟩ (.pointer none) = w3 at *
    have hS3 : Srv w3 S 1 v c := hS2.of_block (hk3.block _ hS2.lt (Ne.symm (hSs i hi)))
    have hC3 : ChanOk w3 c := hC2.of_block (hk3.block _ hC2.lt (hcs i hi))
    have hh3 : HeapOn (keyF (updD d i dl) q) q.length := HeapOn_congr hh (fun p hp => keyF_upd dl hn p hp)
    have hx3 := (hV3.out i hi hn).index
    have hkk3 : Kp (Ts S v sb k) w w3 := (((Kp.ofBelow hbb).trans (hk1.wider (fun b _ e => .inl e))).trans (Kp.ofBelow hb2')).trans (hk3.wider (fun b _ e => .inr (.inr ⟨i, hi, e⟩)))
    have hsz3 : w.heap.size ≤ w3.heap.size := hkk3.size
    clear hk3 hb2' hV2 hS2 hC2 hV1 hS1 hC1 hs1 t1 y0 y1 y2 hk1
    go_wp2_with fail
    refine (hpush_any hV3 S 1 c i hS3 hi hn hq hh3).mono ?_
    rintro e w4 ⟨rfl, g, cap, q', hp4, h4, hS4, hh4, hk4, hloc4⟩
    have hi4 : i ∈ q' := hp4.mem_iff.2 (by simp)
    obtain ⟨p, hpl, hpe⟩ := List.getElem_of_mem hi4
    have hx4 := (h4.inq p hpl).index
    rw [getD_eq_getElem _ _ hpl, hpe] at hx4
    have hC4 : ChanOk w4 c := hC3.of_block (hk4.block _ hC3.lt (by rintro (e | e | ⟨j, hj, e⟩); exact hcS e; exact hcg e; exact hcs j hj e))
    have hkk4 : Kp (Ts S v sb k) w w4 := hkk3.trans hk4
    have hloc : v.ownBlock = some g ∨ w.heap.size ≤ g := by rcases hloc4 with e | e; exact .inl e; exact .inr (by omega)
    have hwk := hS4.wake
    clear hV3 hS3 hC3 hh3 hx3 hkk3 hk4 hloc4 hVb hSb hCb hh
    by_cases hp0 : p = 0
    · subst hp0
      go_upto_region 10 with fail
      refine wp_select_send_any (c := c) (v := .agg #[]) (z' := .agg #[]) rfl ?hsel hC4 ?rest
      case hsel => simp [execOp, Conc.scase, Act.eval, go_sem]
      case rest =>
        intro n w5 hC5 e1 e2 e3 e4 e5
        have hk5 : Kp (fun b => b = c) w4 w5 := ⟨e1, e2, e3, by omega, fun b _ hb => e5 b hb⟩
        clear e1 e2 e3 e4 e5
        have fin := sched_end h4 hS4 hC4 hk5 hC5 hkk4
        go_wp2_with fail
        all_goals
          refine leaves_cons (f := 13) (args := #[.pointer (some ⟨S, 6, none⟩)]) (by simp) (by simp [go_sem]) ?_
          refine (unlock_deferred muLib ⟨S, 6, none⟩ .returning _ fin.1 fin.2.1).mono ?_
          rintro e u' w'' ⟨rfl, rfl, rfl⟩
          exact ⟨_, results_none rfl _ _ _, rfl, g, cap, q', hp4, fin.2.2.1, fin.2.2.2.1, fin.2.2.2.2.1, hh4, fin.2.2.2.2.2, hloc⟩
    · have hp0' : ((p : Int) == 0) = false := by simp; omega
      have fin := sched_end h4 hS4 hC4 (Kp.refl _ w4) hC4 hkk4
      go_wp2_with fail
      refine leaves_cons (f := 13) (args := #[.pointer (some ⟨S, 6, none⟩)]) (by simp) (by simp [go_sem]) ?_
      refine (unlock_deferred muLib ⟨S, 6, none⟩ .returning _ fin.1 fin.2.1).mono ?_
      rintro e u' w'' ⟨rfl, rfl, rfl⟩
      exact ⟨_, results_none rfl _ _ _, rfl, g, cap, q', hp4, fin.2.2.1, fin.2.2.2.1, fin.2.2.2.2.1, hh4, fin.2.2.2.2.2, hloc⟩
end Go.Proofs.Ybulkdkyy
