import Derived.Test.YbulkdkyyDown
import Derived.Maps.AppendAt
import Derived.OwnWalk
import Derived.Deep.AppendLies
namespace Go.Proofs.Ybulkdkyy
set_option linter.unusedVariables false
set_option linter.unusedSimpArgs false
open Go.RowKit

/-- The server in memory: block S; the lock's state m, the expiries v, the channel's block c. -/
def Srv (w : World) (S : Nat) (m : Int) (v : Value) (c : Nat) : Prop :=
  ∃ f, w.rowIs S 40 11 f ∧ f 3 = .int .i64 0 ∧ f 6 = .int .i32 m ∧ f 9 = v ∧ f 10 = .chan (some c)

theorem Yba.info41 : (Yba.prog.info? 41).map (fun i => (i.zero, i.size, i.bytes)) = some (some (.pointer none), 1, 8) := by kernel_rfl

theorem assert41 (b : Nat) (w : World) : (Instr.typeAssert (.iface 41 (.pointer (some ⟨b, 0, none⟩))) 20 41 false).run Yba.prog w = .ok (.pointer (some ⟨b, 0, none⟩)) w := by kernel_rfl

set_option maxRecDepth 10000 in
set_option maxHeartbeats 400000 in
theorem epush_low (S b n : Nat) (a : Option Addr) (c : Nat) (x : Value) (xs : List Value) (w : World) (hn : n ≤ 65536)
    (hS : w.cell? ⟨S, 9, none⟩ = some (.slice a n c)) (fS : w.frozen? ⟨S, 9, none⟩ = false) (hb : w.cell? ⟨b, 21, none⟩ = some x) (fb : w.frozen? ⟨b, 21, none⟩ = false) (hSb : S ≠ b)
    (hgb : (Value.slice a n c).ownBlock ≠ some b) (hgS : (Value.slice a n c).ownBlock ≠ some S)
    (hown : w.ownsRow 0 41 1 (.slice a n c) n xs) :
    Calls Yba.prog 97 #[.pointer (some ⟨S, 9, none⟩), .iface 41 (.pointer (some ⟨b, 0, none⟩))] w fun e w' => e = .returned (.tuple #[]) ∧
      ∃ g cap w1, w' = w1.setCell ⟨S, 9, none⟩ (.slice (some ⟨g, 0, none⟩) (n + 1) cap) ∧ w1.ownsRow 0 41 1 (.slice (some ⟨g, 0, none⟩) (n + 1) cap) (n + 1) (xs ++ [.pointer (some ⟨b, 0, none⟩)]) ∧
        ((w.setCell ⟨b, 21, none⟩ (.int .i64 n)).alloc (.cells #[.pointer (some ⟨b, 0, none⟩)] 41)).grownBy w1 (Value.slice a n c).ownBlock ∧ ((Value.slice a n c).ownBlock = some g ∨ g = w.heap.size + 1) := by
  obtain ⟨i0, hi, hz0, hz1, hz2⟩ := info_parts Yba.info41
  have hSb' : b ≠ S := Ne.symm hSb
  have hlt : S < w.heap.size := block_lt_of_cell hS
  have hown1 : (w.setCell ⟨b, 21, none⟩ (.int .i64 n)).ownsRow 0 41 1 (.slice a n c) n xs := by
    refine hown.kept (row := some b) ⟨rfl, rfl, rfl, by simp, fun k hk hne => RowKit.Below.heap_setCell _ _ _ _ (fun e => hne (by rw [e]))⟩ ?_
    right; exact hgb
  clear hown
  have ta := assert41 b
  go_enter Yba.func97, Yba.ntmps97
  go_wp2_with (at_builtin; refine wpList_append_own_at _ rfl _ _ 38 rfl 0 41 i0 (.pointer none) 1 8 Yba.underlying38 hi hz0 hz1 hz2 rfl (by decide) _ _ _ rfl (hown1.alloc _) ⟨w.heap.size, 0, none⟩ 1 1 [.pointer (some ⟨b, 0, none⟩)] rfl rfl ?q1 ?q2 ?q3 ?q4 ?q5 ?q6)
  case q1 =>
    intro j u hu
    have := cell_one_new (w.setCell ⟨b, 21, none⟩ (.int .i64 n)) _ 41 j u hu
    rw [World.size_setCell] at this; exact this
  case q2 => intro u hu; simp at hu; subst hu; rfl
  case q3 => unfold maxLen; omega
  case q4 => omega
  case q5 => omega
  intro v' w1 hown' hgrow hnil hloc
  obtain ⟨g, cap, hv, _, hgl⟩ := hown'.form (by omega)
  subst hv
  have hS1 : w1.cell? ⟨S, 9, none⟩ = some (.slice a n c) := by
    rw [hgrow.cell_far ⟨S, 9, none⟩ (by simp; omega) (Ne.symm hgS)]
    rw [World.cell?_alloc_lt _ _ _ (by simpa using hlt), World.cell?_setCell_other _ _ _ _ (by simp [hSb'])]; exact hS
  have fS1 : w1.frozen? ⟨S, 9, none⟩ = false := by
    rw [hgrow.frozen_far ⟨S, 9, none⟩ (by simp; omega) (Ne.symm hgS)]
    rw [World.frozen?_alloc_old _ _ _ (by simp; omega), World.frozen?_setCell]; exact fS
  go_wp2
  go_end0
  refine ⟨rfl, g, cap, w1, rfl, hown', hgrow, ?_⟩
  rcases hloc with hl | hl
  · exact .inl hl.symm
  · right; simpa [Value.ownBlock] using hl

namespace Srv
variable {w w' : World} {S : Nat} {m : Int} {v : Value} {c : Nat}
theorem exp (h : Srv w S m v c) : w.cell? ⟨S, 9, none⟩ = some v := by obtain ⟨f, hr, _, _, h1, _⟩ := h; rw [hr.cell (by omega), h1]
theorem lock (h : Srv w S m v c) : w.cell? ⟨S, 6, none⟩ = some (.int .i32 m) := by obtain ⟨f, hr, _, h1, _⟩ := h; rw [hr.cell (by omega), h1]
theorem timeout (h : Srv w S m v c) : w.cell? ⟨S, 3, none⟩ = some (.int .i64 0) := by obtain ⟨f, hr, h1, _⟩ := h; rw [hr.cell (by omega), h1]
theorem wake (h : Srv w S m v c) : w.cell? ⟨S, 10, none⟩ = some (.chan (some c)) := by obtain ⟨f, hr, _, _, _, h1⟩ := h; rw [hr.cell (by omega), h1]
theorem frozen (h : Srv w S m v c) (o : Nat) : w.frozen? ⟨S, o, none⟩ = false := by obtain ⟨f, hr, _⟩ := h; exact hr.frozen o
theorem lt (h : Srv w S m v c) : S < w.heap.size := by obtain ⟨f, hr, _⟩ := h; exact hr.lt
theorem of_block (h : Srv w S m v c) (e : w'.heap[S]? = w.heap[S]?) : Srv w' S m v c := by obtain ⟨f, hr, r⟩ := h; exact ⟨f, hr.of_block e, r⟩
theorem setExp (h : Srv w S m v c) (u : Value) : Srv (w.setCell ⟨S, 9, none⟩ u) S m u c := by
  obtain ⟨f, hr, h1, h2, h3, h4⟩ := h
  exact ⟨_, hr.set 9 _, by simpa using h1, by simpa using h2, by simp, by simpa using h4⟩
theorem setLock (h : Srv w S m v c) (y : Int) : Srv (w.setCell ⟨S, 6, none⟩ (.int .i32 y)) S y v c := by
  obtain ⟨f, hr, h1, h2, h3, h4⟩ := h
  exact ⟨_, hr.set 6 _, by simpa using h1, by simp, by simpa using h3, by simpa using h4⟩
theorem ne_row (h : Srv w S m v c) {g : Nat} {cur : Array Value} {t : TypeId} {fr : Nat × Nat} (hg : w.heap[g]? = some (.cells cur t fr)) (ht : t ≠ 40) : S ≠ g := by
  intro e; subst e
  obtain ⟨f, ⟨c, hc, _⟩, _⟩ := h
  rw [hg] at hc
  simp only [Option.some.injEq, Obj.cells.injEq] at hc
  exact ht hc.2.1
theorem ne_sess (h : Srv w S m v c) {b i : Nat} {d x : Int} (hs : Sess w b i d x) : S ≠ b := by
  obtain ⟨f, ⟨cc, hc, _⟩, _⟩ := hs
  exact h.ne_row hc (by decide)
end Srv

/-- The heap, its slice nil or not. -/
structure HV (w : World) (v : Value) (sb : Nat → Nat) (d : Nat → Int) (k : Nat) (q : List Nat) : Prop where
  own : w.ownsRow 0 41 1 v q.length (q.map fun i => .pointer (some ⟨sb i, 0, none⟩))
  inq : ∀ j, j < q.length → Sess w (sb (q.getD j 0)) (q.getD j 0) (d (q.getD j 0)) j
  out : ∀ i, i < k → i ∉ q → Sess w (sb i) i (d i) (-1)
  ids : ∀ i, i ∈ q → i < k
  nodup : q.Nodup
  inj : ∀ i j, i < k → j < k → sb i = sb j → i = j

/-- What the operations on the heap may turn. -/
def Ts (S : Nat) (v : Value) (sb : Nat → Nat) (k : Nat) : Nat → Prop := fun b => b = S ∨ v.ownBlock = some b ∨ ∃ i, i < k ∧ b = sb i

theorem HW.hv {w : World} {g cap : Nat} {sb : Nat → Nat} {d : Nat → Int} {k : Nat} {q : List Nat} (h : HW w g cap sb d k q) : HV w (.slice (some ⟨g, 0, none⟩) q.length cap) sb d k q := by
  refine ⟨⟨by simp, .inr ?_⟩, h.inq, h.out, h.ids, h.nodup, h.inj⟩
  obtain ⟨cur, hb, hs, hc⟩ := h.row
  refine ⟨g, cap, cur, rfl, Nat.zero_le _, hb, h.room, h.capm, by omega, ?_⟩
  have r := h.room
  apply List.ext_getElem
  · simp; omega
  · intro j h1 h2
    simp at h2
    have := hc j h2
    rw [Array.getElem?_eq_getElem (by omega)] at this
    simp only [List.getElem_take, Array.getElem_toList, List.getElem_map]
    rw [Option.some.inj this, getD_eq_getElem _ _ h2]

theorem HV.hw {w : World} {v : Value} {sb : Nat → Nat} {d : Nat → Int} {k : Nat} {q : List Nat} (h : HV w v sb d k q) (hq : q ≠ []) : ∃ g cap, v = .slice (some ⟨g, 0, none⟩) q.length cap ∧ HW w g cap sb d k q := by
  rcases h.own.2 with ⟨_, h0⟩ | ⟨g, cap, cur, hv, _, hb, hr, hm, hs, ht⟩
  · exact absurd (List.length_eq_zero_iff.1 h0) hq
  · refine ⟨g, cap, hv, ⟨cur, hb, by omega, fun j hj => ?_⟩, hr, hm, h.inq, h.out, h.ids, h.nodup, h.inj⟩
    have e := congrArg (fun l => l[j]?) ht
    simp only [Nat.mul_one] at e
    rw [List.getElem?_take_of_lt hj, List.getElem?_map, Array.getElem?_toList] at e
    rw [e, List.getElem?_eq_getElem hj, getD_eq_getElem _ _ hj]; rfl

namespace HV
variable {w w' : World} {v : Value} {sb : Nat → Nat} {d : Nat → Int} {k : Nat} {q : List Nat}
theorem any (h : HV w v sb d k q) {i : Nat} (hi : i < k) : ∃ x, Sess w (sb i) i (d i) x := by
  by_cases hm : i ∈ q
  · obtain ⟨j, hj, e⟩ := List.getElem_of_mem hm
    have := h.inq j hj
    rw [getD_eq_getElem _ _ hj, e] at this
    exact ⟨_, this⟩
  · exact ⟨_, h.out i hi hm⟩
theorem row (h : HV w v sb d k q) {g : Nat} (hg : v.ownBlock = some g) : ∃ cur, w.heap[g]? = some (.cells cur 41 (0, 0)) := by
  rcases h.own.2 with ⟨hv, _⟩ | ⟨g', cap, cur, hv, _, hb, _⟩
  · rw [hv] at hg; cases hg
  · rw [hv] at hg; simp [Value.ownBlock] at hg; subst hg; exact ⟨cur, hb⟩
theorem of_blocks (h : HV w v sb d k q) (hg : ∀ g, v.ownBlock = some g → w'.heap[g]? = w.heap[g]?) (hs : ∀ i, i < k → w'.heap[sb i]? = w.heap[sb i]?) : HV w' v sb d k q :=
  ⟨by
    refine ⟨h.own.1, ?_⟩
    rcases h.own.2 with h0 | ⟨g, cap, cur, hv, hb0, hb, r⟩
    · exact .inl h0
    · exact .inr ⟨g, cap, cur, hv, hb0, (hg g (by rw [hv]; rfl)).trans hb, r⟩, fun j hj => (h.inq j hj).of_block (hs _ (h.ids _ (getD_mem hj))), fun i hi hn => (h.out i hi hn).of_block (hs i hi), h.ids, h.nodup, h.inj⟩
theorem own_lt (h : HV w v sb d k q) {g : Nat} (hg : v.ownBlock = some g) : g < w.heap.size := by
  obtain ⟨cur, hb⟩ := h.row hg; exact (Array.getElem?_eq_some_iff.1 hb).1
theorem kp {T : Nat → Prop} (h : HV w v sb d k q) (hb : Kp T w w') (h1 : ∀ g, v.ownBlock = some g → ¬ T g) (h2 : ∀ i, i < k → ¬ T (sb i)) : HV w' v sb d k q :=
  h.of_blocks (fun g hg => hb.block _ (h.own_lt hg) (h1 g hg)) (fun i hi => by obtain ⟨x, hx⟩ := h.any hi; exact hb.block _ hx.lt (h2 i hi))
theorem below (h : HV w v sb d k q) (hb : Below w.heap.size w w') : HV w' v sb d k q :=
  h.of_blocks (fun g hg => hb.block _ (h.own_lt hg)) (fun i hi => by obtain ⟨x, hx⟩ := h.any hi; exact hb.block _ hx.lt)
end HV

theorem epush_any {w : World} {v : Value} {sb : Nat → Nat} {d : Nat → Int} {k : Nat} {q : List Nat} (h : HV w v sb d k q) (S : Nat) (m : Int) (c i : Nat) (hS : Srv w S m v c) (hi : i < k) (hn : i ∉ q) (hq : q.length ≤ 65536) :
    Calls Yba.prog 97 #[.pointer (some ⟨S, 9, none⟩), .iface 41 (.pointer (some ⟨sb i, 0, none⟩))] w fun e w' => e = .returned (.tuple #[]) ∧
      ∃ g cap, HW w' g cap sb d k (q ++ [i]) ∧ Srv w' S m (.slice (some ⟨g, 0, none⟩) (q.length + 1) cap) c ∧ Kp (Ts S v sb k) w w' ∧ (v.ownBlock = some g ∨ w.heap.size ≤ g) := by
  have hs := h.out i hi hn
  have hSb := hS.ne_sess hs
  obtain ⟨a, c0, hv⟩ : ∃ a c0, v = .slice a q.length c0 := by
    rcases h.own.2 with ⟨hv, h0⟩ | ⟨g, cap, cur, hv, _⟩
    · exact ⟨none, 0, by rw [hv, h0]⟩
    · exact ⟨_, _, hv⟩
  have hgb : v.ownBlock ≠ some (sb i) := fun e => by obtain ⟨cur, hb⟩ := h.row e; exact hs.ne_row hb (by decide) rfl
  have hgS : v.ownBlock ≠ some S := fun e => by obtain ⟨cur, hb⟩ := h.row e; exact hS.ne_row hb (by decide) rfl
  have hown := h.own
  have hexp := hS.exp
  rw [hv] at hexp hgb hgS hown
  refine (epush_low S (sb i) q.length a c0 _ _ w hq hexp (hS.frozen 9) hs.index (hs.frozen 21) hSb hgb hgS hown).mono ?_
  rintro e w' ⟨rfl, g, cap, w1, rfl, hown1, hgr, hloc⟩
  rw [← hv] at hgr hloc
  -- what the step did to the blocks
  have hblk : ∀ b, b < w.heap.size → v.ownBlock ≠ some b → b ≠ sb i → w1.heap[b]? = w.heap[b]? := fun b hb h1 h2 => by
    rw [hgr.block b (by simp; omega) (fun e => h1 e.symm), RowKit.Below.heap_alloc _ _ _ (by simpa using hb), RowKit.Below.heap_setCell _ _ _ _ h2]
  rw [← hv] at hgb hgS
  have hS1 : Srv w1 S m v c := hS.of_block (hblk S hS.lt hgS hSb)
  have hsi : Sess w1 (sb i) i (d i) q.length := (((hs.setIndex q.length).alloc _)).of_block (hgr.block _ (by have := hs.lt; simp; omega) (fun e => hgb e.symm))
  have hso : ∀ j x, j < k → j ≠ i → Sess w (sb j) j (d j) x → Sess w1 (sb j) j (d j) x := fun j x hj hji hx =>
    hx.of_block (hblk _ hx.lt (fun e => by obtain ⟨cur, hb⟩ := h.row e; exact hx.ne_row hb (by decide) rfl) (fun e => hji (h.inj _ _ hj hi e)))
  obtain ⟨cur, hbg⟩ : ∃ cur, w1.heap[g]? = some (.cells cur 41 (0, 0)) := by
    rcases hown1.2 with ⟨hv1, _⟩ | ⟨g', cap', cur, hv1, _, hb, _⟩
    · cases hv1
    · simp only [Value.slice.injEq, Option.some.injEq, Addr.mk.injEq] at hv1
      rw [hv1.1.1]; exact ⟨cur, hb⟩
  have hgS1 : S ≠ g := hS1.ne_row hbg (by decide)
  have hHV : HV w1 (.slice (some ⟨g, 0, none⟩) (q.length + 1) cap) sb d k (q ++ [i]) := by
    refine ⟨by simpa using hown1, ?_, ?_, ?_, ?_, h.inj⟩
    · intro j hj
      simp at hj
      by_cases e : j = q.length
      · subst e
        have e2 : (q ++ [i]).getD q.length 0 = i := by simp [List.getD]
        rw [e2]; exact hsi
      · have hj' : j < q.length := by omega
        have e2 : (q ++ [i]).getD j 0 = q.getD j 0 := by simp [List.getD, List.getElem?_append_left hj']
        rw [e2]
        refine hso _ _ (h.ids _ (getD_mem hj')) ?_ (h.inq j hj')
        intro e3; exact hn (e3 ▸ getD_mem hj')
    · intro j hj hjn
      simp at hjn
      exact hso j _ hj hjn.2 (h.out j hj hjn.1)
    · intro j hj
      simp at hj
      rcases hj with hj | rfl
      · exact h.ids j hj
      · exact hi
    · rw [List.nodup_append]
      exact ⟨h.nodup, by simp, fun a ha b hb e => by simp at hb; subst hb; subst e; exact hn ha⟩
  have hkp : Kp (Ts S v sb k) w w1 := by
    refine ⟨hgr.os, hgr.tape, hgr.output, ?_, fun b hb hT => hblk b hb (fun e => hT (.inr (.inl e))) (fun e => hT (.inr (.inr ⟨i, hi, e⟩)))⟩
    have := hgr.size; simp at this; omega
  have hSne : ∀ j, j < k → sb j ≠ S := fun j hj e => by obtain ⟨x, hx⟩ := hHV.any hj; exact hS1.ne_sess hx e.symm
  obtain ⟨g', cap', e1, hHW⟩ := hHV.hw (by simp)
  simp only [Value.slice.injEq, Option.some.injEq, Addr.mk.injEq, and_true, true_and] at e1
  obtain ⟨rfl, _, rfl⟩ := e1
  refine ⟨rfl, g, cap, hHW.of_blocks (RowKit.Below.heap_setCell _ _ _ _ (Ne.symm hgS1)) (fun j hj => RowKit.Below.heap_setCell _ _ _ _ (hSne j hj)), hS1.setExp _, hkp.setCell (.inl (.inl rfl)) _, ?_⟩
  rcases hloc with hl | hl
  · exact .inl hl
  · right; omega
end Go.Proofs.Ybulkdkyy
