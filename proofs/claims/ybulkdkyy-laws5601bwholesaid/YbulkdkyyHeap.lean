import Derived.Test.YbulkdkyyTime
import Derived.Test.YbulkdkyyPlain
import Derived.Deep.OwnRows
import Derived.Lib.QuietBelow
import Derived.BigRegion
namespace Go.Proofs.Ybulkdkyy
set_option linter.unusedVariables false
set_option linter.unusedSimpArgs false
open Go.RowKit
open Go.Sort (grow)

def nsOf (d : Int) : Int := d % 1000000000
def scOf (d : Int) : Int := d / 1000000000
theorem nsOf_lo (d : Int) : 0 ≤ nsOf d := by unfold nsOf; omega
theorem nsOf_hi (d : Int) : nsOf d < 1000000000 := by unfold nsOf; omega
theorem lt_of_parts (a b : Int) : decide (a < b) = decide (scOf a < scOf b ∨ (scOf a = scOf b ∧ nsOf a < nsOf b)) := by
  unfold nsOf scOf; simp only [decide_eq_decide]; omega
theorem gt_of_parts (a b : Int) : decide (b < a) = decide (scOf b < scOf a ∨ (scOf a = scOf b ∧ nsOf b < nsOf a)) := by
  unfold nsOf scOf; simp only [decide_eq_decide]; omega
theorem eq_of_parts (a b : Int) : decide (a = b) = decide (scOf a = scOf b ∧ nsOf a = nsOf b) := by
  unfold nsOf scOf; simp only [decide_eq_decide]; omega

/-! ### all blocks but those in T are as they were -/
structure Kp (T : Nat → Prop) (w w' : World) : Prop where
  os : w'.os = w.os
  tape : w'.tape = w.tape
  output : w'.output = w.output
  size : w.heap.size ≤ w'.heap.size
  block : ∀ b, b < w.heap.size → ¬ T b → w'.heap[b]? = w.heap[b]?

namespace Kp
variable {T U : Nat → Prop} {w w' w'' : World}
theorem refl (T : Nat → Prop) (w : World) : Kp T w w := ⟨rfl, rfl, rfl, Nat.le_refl _, fun _ _ _ => rfl⟩
theorem trans (h : Kp T w w') (k : Kp T w' w'') : Kp T w w'' :=
  ⟨k.os.trans h.os, k.tape.trans h.tape, k.output.trans h.output, Nat.le_trans h.size k.size, fun b hb ht => (k.block b (Nat.lt_of_lt_of_le hb h.size) ht).trans (h.block b hb ht)⟩
theorem wider (h : Kp T w w') (hU : ∀ b, b < w.heap.size → T b → U b) : Kp U w w' := ⟨h.os, h.tape, h.output, h.size, fun b hb hn => h.block b hb (fun ht => hn (hU b hb ht))⟩
theorem ofBelow (h : Below w.heap.size w w') : Kp T w w' := ⟨h.os, h.tape, h.output, h.size, fun b hb _ => h.block b hb⟩
theorem drew (h : Kp T w w') : Kp T w w'.drew := ⟨h.os, h.tape, h.output, h.size, h.block⟩
theorem alloc (h : Kp T w w') (o : Obj) : Kp T w (w'.alloc o) :=
  h.trans (ofBelow ((Below.refl _ _).alloc (Nat.le_refl _) _))
theorem setCell (h : Kp T w w') {a : Addr} (ha : T a.block ∨ w.heap.size ≤ a.block) (v : Value) : Kp T w (w'.setCell a v) :=
  ⟨h.os, h.tape, h.output, by simpa using h.size, fun b hb ht => by
    rw [RowKit.Below.heap_setCell _ _ _ _ (fun e => by rcases ha with ha | ha; exact ht (e ▸ ha); omega)]; exact h.block b hb ht⟩
theorem below (h : Kp T w w') {B : Nat} (hB : B ≤ w.heap.size) (hT : ∀ b, T b → B ≤ b) : Below B w w' := ⟨h.os, h.tape, h.output, h.size, fun b hb => h.block b (by omega) (fun ht => by have := hT b ht; omega)⟩
end Kp

/-! ### a session in memory -/
/-- Block b is a session: marked i, its deadline d, its place x. -/
def Sess (w : World) (b i : Nat) (d x : Int) : Prop :=
  ∃ f, w.rowIs b 61 22 f ∧ f 12 = .int .i64 i ∧ f 18 = .int .u64 (nsOf d) ∧ f 19 = .int .i64 (scOf d) ∧ f 20 = .pointer none ∧ f 21 = .int .i64 x

namespace Sess
variable {w w' : World} {b i : Nat} {d x : Int}
theorem granted (h : Sess w b i d x) : w.cell? ⟨b, 12, none⟩ = some (.int .i64 i) := by obtain ⟨f, hr, h1, _⟩ := h; rw [hr.cell (by omega), h1]
theorem dl0 (h : Sess w b i d x) : w.cell? ⟨b, 18, none⟩ = some (.int .u64 (nsOf d)) := by obtain ⟨f, hr, _, h1, _⟩ := h; rw [hr.cell (by omega), h1]
theorem dl1 (h : Sess w b i d x) : w.cell? ⟨b, 19, none⟩ = some (.int .i64 (scOf d)) := by obtain ⟨f, hr, _, _, h1, _⟩ := h; rw [hr.cell (by omega), h1]
theorem dl2 (h : Sess w b i d x) : w.cell? ⟨b, 20, none⟩ = some (.pointer none) := by obtain ⟨f, hr, _, _, _, h1, _⟩ := h; rw [hr.cell (by omega), h1]
theorem index (h : Sess w b i d x) : w.cell? ⟨b, 21, none⟩ = some (.int .i64 x) := by obtain ⟨f, hr, _, _, _, _, h1⟩ := h; rw [hr.cell (by omega), h1]
theorem frozen (h : Sess w b i d x) (o : Nat) : w.frozen? ⟨b, o, none⟩ = false := by obtain ⟨f, hr, _⟩ := h; exact hr.frozen o
theorem lt (h : Sess w b i d x) : b < w.heap.size := by obtain ⟨f, hr, _⟩ := h; exact hr.lt
theorem of_block (h : Sess w b i d x) (e : w'.heap[b]? = w.heap[b]?) : Sess w' b i d x := by obtain ⟨f, hr, r⟩ := h; exact ⟨f, hr.of_block e, r⟩
theorem setOther (h : Sess w b i d x) {a : Addr} (ha : b ≠ a.block) (v : Value) : Sess (w.setCell a v) b i d x := by obtain ⟨f, hr, r⟩ := h; exact ⟨f, hr.setOther ha v, r⟩
theorem drew (h : Sess w b i d x) : Sess w.drew b i d x := h
theorem alloc (h : Sess w b i d x) (o : Obj) : Sess (w.alloc o) b i d x := by obtain ⟨f, hr, r⟩ := h; exact ⟨f, hr.alloc o, r⟩
theorem setIndex (h : Sess w b i d x) (y : Int) : Sess (w.setCell ⟨b, 21, none⟩ (.int .i64 y)) b i d y := by
  obtain ⟨f, hr, h1, h2, h3, h4, h5⟩ := h
  exact ⟨_, hr.set 21 _, by simpa using h1, by simpa using h2, by simpa using h3, by simpa using h4, by simp⟩
theorem ne_row (h : Sess w b i d x) {g : Nat} {cur : Array Value} {t : TypeId} {fr : Nat × Nat} (hg : w.heap[g]? = some (.cells cur t fr)) (ht : t ≠ 61) : b ≠ g := by
  intro e; subst e
  obtain ⟨f, ⟨c, hc, _⟩, _⟩ := h
  rw [hg] at hc
  simp only [Option.some.injEq, Obj.cells.injEq] at hc
  exact ht hc.2.1
end Sess

/-! ### the heap in memory -/
/-- Block g holds the pointers of the sessions q in order; the sessions 0 .. k-1 lie in the blocks sb; each of q's bears its place, each other -1. -/
structure HW (w : World) (g cap : Nat) (sb : Nat → Nat) (d : Nat → Int) (k : Nat) (q : List Nat) : Prop where
  row : ∃ cur : Array Value, w.heap[g]? = some (.cells cur 41 (0, 0)) ∧ cur.size = cap ∧ ∀ j, j < q.length → cur[j]? = some (.pointer (some ⟨sb (q.getD j 0), 0, none⟩))
  room : q.length ≤ cap
  capm : cap ≤ maxLen
  inq : ∀ j, j < q.length → Sess w (sb (q.getD j 0)) (q.getD j 0) (d (q.getD j 0)) j
  out : ∀ i, i < k → i ∉ q → Sess w (sb i) i (d i) (-1)
  ids : ∀ i, i ∈ q → i < k
  nodup : q.Nodup
  inj : ∀ i j, i < k → j < k → sb i = sb j → i = j

/-- What the heap's operations may turn. -/
def Tq (g : Nat) (sb : Nat → Nat) (k : Nat) : Nat → Prop := fun b => b = g ∨ ∃ i, i < k ∧ b = sb i

theorem getD_mem {q : List Nat} {j : Nat} (h : j < q.length) : q.getD j 0 ∈ q := by rw [getD_eq_getElem _ _ h]; exact List.getElem_mem h

namespace HW
variable {w w' : World} {g cap : Nat} {sb : Nat → Nat} {d : Nat → Int} {k : Nat} {q : List Nat}
theorem cell (h : HW w g cap sb d k q) {j : Nat} (hj : j < q.length) : w.cell? ⟨g, j, none⟩ = some (.pointer (some ⟨sb (q.getD j 0), 0, none⟩)) := by
  obtain ⟨cur, hb, _, hc⟩ := h.row
  simp [World.cell?, hb, hc j hj]
theorem frozen (h : HW w g cap sb d k q) (j : Nat) : w.frozen? ⟨g, j, none⟩ = false := by
  obtain ⟨cur, hb, _, hc⟩ := h.row
  simp [World.frozen?, hb]
theorem lt (h : HW w g cap sb d k q) : g < w.heap.size := by
  obtain ⟨cur, hb, _, hc⟩ := h.row
  exact (Array.getElem?_eq_some_iff.1 hb).1
theorem any (h : HW w g cap sb d k q) {i : Nat} (hi : i < k) : ∃ x, Sess w (sb i) i (d i) x := by
  by_cases hm : i ∈ q
  · obtain ⟨j, hj, e⟩ := List.getElem_of_mem hm
    have := h.inq j hj
    rw [getD_eq_getElem _ _ hj, e] at this
    exact ⟨_, this⟩
  · exact ⟨_, h.out i hi hm⟩
theorem sb_ne (h : HW w g cap sb d k q) {i : Nat} (hi : i < k) : sb i ≠ g := by
  obtain ⟨x, hx⟩ := h.any hi
  obtain ⟨cur, hb, _, hc⟩ := h.row
  exact hx.ne_row hb (by decide)
theorem of_blocks (h : HW w g cap sb d k q) (hg : w'.heap[g]? = w.heap[g]?) (hs : ∀ i, i < k → w'.heap[sb i]? = w.heap[sb i]?) : HW w' g cap sb d k q :=
  ⟨by obtain ⟨cur, hb, r⟩ := h.row; exact ⟨cur, hg.trans hb, r⟩, h.room, h.capm, fun j hj => (h.inq j hj).of_block (hs _ (h.ids _ (getD_mem hj))), fun i hi hn => (h.out i hi hn).of_block (hs i hi), h.ids, h.nodup, h.inj⟩
theorem below (h : HW w g cap sb d k q) (hb : Below w.heap.size w w') : HW w' g cap sb d k q :=
  h.of_blocks (hb.block _ h.lt) (fun i hi => by obtain ⟨x, hx⟩ := h.any hi; exact hb.block _ hx.lt)
theorem kp {T : Nat → Prop} (h : HW w g cap sb d k q) (hb : Kp T w w') (hT : ∀ b, T b → ¬ Tq g sb k b) : HW w' g cap sb d k q :=
  h.of_blocks (hb.block _ h.lt (fun ht => hT _ ht (.inl rfl))) (fun i hi => by obtain ⟨x, hx⟩ := h.any hi; exact hb.block _ hx.lt (fun ht => hT _ ht (.inr ⟨i, hi, rfl⟩)))

/-- Two places exchanged, and the two sessions' places told anew. -/
theorem swap (h : HW w g cap sb d k q) {i j : Nat} (hi : i < q.length) (hj : j < q.length) (hij : i ≠ j) :
    HW ((((w.setCell ⟨g, i, none⟩ (.pointer (some ⟨sb (q.getD j 0), 0, none⟩))).setCell ⟨g, j, none⟩ (.pointer (some ⟨sb (q.getD i 0), 0, none⟩))).setCell ⟨sb (q.getD j 0), 21, none⟩ (.int .i64 i)).setCell ⟨sb (q.getD i 0), 21, none⟩ (.int .i64 j)).drew.drew g cap sb d k (swapL q i j) := by
  have mi := h.ids _ (getD_mem hi)
  have mj := h.ids _ (getD_mem hj)
  have gi := h.sb_ne mi
  have gj := h.sb_ne mj
  have hperm := swapL_perm q i j hi hj
  have hne : q.getD i 0 ≠ q.getD j 0 := by
    rw [getD_eq_getElem _ _ hi, getD_eq_getElem _ _ hj]
    intro e; exact hij (nodup_inj h.nodup hi hj e)
  have hsb : sb (q.getD i 0) ≠ sb (q.getD j 0) := fun e => hne (h.inj _ _ mi mj e)
  refine ⟨?_, by rw [swapL_length]; exact h.room, h.capm, ?_, ?_, fun x hx => h.ids x (hperm.mem_iff.1 hx), hperm.nodup_iff.2 h.nodup, h.inj⟩
  · obtain ⟨cur, hb, hs, hc⟩ := h.row
    refine ⟨(cur.setIfInBounds i (.pointer (some ⟨sb (q.getD j 0), 0, none⟩))).setIfInBounds j (.pointer (some ⟨sb (q.getD i 0), 0, none⟩)), ?_, by simpa using hs, fun p hp => ?_⟩
    · show (World.setCell _ _ _).heap[g]? = _
      rw [RowKit.Below.heap_setCell _ _ _ _ (Ne.symm gi), RowKit.Below.heap_setCell _ _ _ _ (Ne.symm gj)]
      simp [World.setCell, Array.getElem?_modify, hb]
    · rw [swapL_length] at hp
      rw [swapL_getD q i j p hi hj hp]
      have r := h.room
      rw [Array.getElem?_setIfInBounds, Array.getElem?_setIfInBounds]
      by_cases e1 : j = p
      · subst e1
        have : ¬ j = i := fun e => hij e.symm
        simp [this]; omega
      · by_cases e2 : i = p
        · subst e2
          simp [e1]; omega
        · have e1' : ¬ p = j := fun e => e1 e.symm
          have e2' : ¬ p = i := fun e => e2 e.symm
          simp only [e1, e2, e1', e2', if_false]
          exact hc p hp
  · intro p hp
    rw [swapL_length] at hp
    rw [swapL_getD q i j p hi hj hp]
    refine Sess.drew (Sess.drew ?_)
    by_cases e1 : p = i
    · subst e1
      rw [if_pos rfl]
      refine Sess.setOther ?_ (Ne.symm hsb) _
      exact (((h.inq j hj).setOther gj _).setOther gj _).setIndex _
    · rw [if_neg e1]
      by_cases e2 : p = j
      · subst e2
        rw [if_pos rfl]
        exact ((((h.inq i hi).setOther gi _).setOther gi _).setOther hsb _).setIndex _
      · rw [if_neg e2]
        have mp := h.ids _ (getD_mem hp)
        have gp := h.sb_ne mp
        have n1 : sb (q.getD p 0) ≠ sb (q.getD i 0) := fun e => by
          have := h.inj _ _ mp mi e
          rw [getD_eq_getElem _ _ hp, getD_eq_getElem _ _ hi] at this
          exact e1 (nodup_inj h.nodup hp hi this)
        have n2 : sb (q.getD p 0) ≠ sb (q.getD j 0) := fun e => by
          have := h.inj _ _ mp mj e
          rw [getD_eq_getElem _ _ hp, getD_eq_getElem _ _ hj] at this
          exact e2 (nodup_inj h.nodup hp hj this)
        exact ((((h.inq p hp).setOther gp _).setOther gp _).setOther n2 _).setOther n1 _
  · intro p hp hn
    have hn' : p ∉ q := fun hm => hn (hperm.mem_iff.2 hm)
    have gp := h.sb_ne hp
    have n1 : sb p ≠ sb (q.getD i 0) := fun e => hn' (h.inj _ _ hp mi e ▸ getD_mem hi)
    have n2 : sb p ≠ sb (q.getD j 0) := fun e => hn' (h.inj _ _ hp mj e ▸ getD_mem hj)
    exact Sess.drew (Sess.drew (((((h.out p hp hn').setOther gp _).setOther gp _).setOther n2 _).setOther n1 _))
end HW
end Go.Proofs.Ybulkdkyy
