import Derived.Test.YbulkdlaoFmtId
import Derived.Test.YbulkdlaoFmtShelf2
import Derived.Deep.CutBlock
import Derived.Deep.DeepCutAuto
import Derived.Lib.SliceRun
namespace Go.Proofs.YbulkdlaoFmt
set_option linter.unusedVariables false
set_option linter.unusedSimpArgs false
open Go.RowKit
open Go.Sort (grow)

/-- w' is w but for new blocks and the blocks in T. -/
structure Kp (T : Nat → Prop) (w w' : World) : Prop where
  os : w'.os = w.os
  tape : w'.tape = w.tape
  output : w'.output = w.output
  size : w.heap.size ≤ w'.heap.size
  block : ∀ b, b < w.heap.size → ¬ T b → w'.heap[b]? = w.heap[b]?
namespace Kp
variable {T U : Nat → Prop} {w w' w'' : World}
theorem refl (T : Nat → Prop) (w : World) : Kp T w w := ⟨rfl, rfl, rfl, Nat.le_refl _, fun _ _ _ => rfl⟩
theorem trans (h : Kp T w w') (k : Kp T w' w'') : Kp T w w'' :=
  ⟨k.os.trans h.os, k.tape.trans h.tape, k.output.trans h.output, Nat.le_trans h.size k.size, fun b hb ht => (k.block b (Nat.lt_of_lt_of_le hb h.size) ht).trans (h.block b hb ht)⟩
theorem wider (h : Kp T w w') (hU : ∀ b, b < w.heap.size → T b → U b) : Kp U w w' := ⟨h.os, h.tape, h.output, h.size, fun b hb hn => h.block b hb (fun ht => hn (hU b hb ht))⟩
theorem ofBelow (h : Below w.heap.size w w') : Kp T w w' := ⟨h.os, h.tape, h.output, h.size, fun b hb _ => h.block b hb⟩
theorem drew (h : Kp T w w') : Kp T w w'.drew := ⟨h.os, h.tape, h.output, h.size, h.block⟩
theorem alloc (h : Kp T w w') (o : Obj) : Kp T w (w'.alloc o) :=
  ⟨h.os, h.tape, h.output, Nat.le_trans h.size (by simp), fun b hb hn => (RowKit.Below.heap_alloc _ _ _ (Nat.lt_of_lt_of_le hb h.size)).trans (h.block b hb hn)⟩
theorem setCell (h : Kp T w w') {a : Addr} (ha : T a.block ∨ w.heap.size ≤ a.block) (v : Value) : Kp T w (w'.setCell a v) :=
  ⟨h.os, h.tape, h.output, by rw [World.size_setCell]; exact h.size, fun b hb hn => (RowKit.Below.heap_setCell _ _ _ _ (by
    rintro rfl
    rcases ha with ha | ha
    · exact hn ha
    · omega)).trans (h.block b hb hn)⟩
theorem below (h : Kp T w w') {B : Nat} (hB : B ≤ w.heap.size) (hT : ∀ b, T b → B ≤ b) : Below B w w' := ⟨h.os, h.tape, h.output, h.size, fun b hb => h.block b (by omega) (fun ht => by have := hT b ht; omega)⟩
theorem cell (h : Kp T w w') {a : Addr} {v : Value} (ha : w.cell? a = some v) (hn : ¬ T a.block) : w'.cell? a = some v :=
  (World.cell?_of_block (h.block _ (block_lt_of_cell ha) hn)).trans ha
end Kp

theorem take_get {α : Type} {l : List α} {n i : Nat} {a : α} (h : (l.take n)[i]? = some a) : l[i]? = some a := by
  rw [List.getElem?_take] at h
  split at h
  · exact h
  · cases h

/-- A row of entries: its cells, none of them frozen. -/
structure RW (w : World) (g : Nat) (es : List En) : Prop where
  c0 : ∀ (i : Nat) (e : En), es[i]? = some e → w.cell? ⟨g, i * 3, none⟩ = some (.int .u64 e.f)
  c1 : ∀ (i : Nat) (e : En), es[i]? = some e → w.cell? ⟨g, i * 3 + 1, none⟩ = some (.int .u64 e.n)
  c2 : ∀ (i : Nat) (e : En), es[i]? = some e → w.cell? ⟨g, i * 3 + 2, none⟩ = some (.int .i64 e.a)
  fz : ∀ o, o < es.length * 3 → w.frozen? ⟨g, o, none⟩ = false

namespace RW
variable {w w' : World} {g : Nat} {es : List En}
theorem block (h : RW w g es) (hb : w'.heap[g]? = w.heap[g]?) : RW w' g es :=
  ⟨fun i e he => (World.cell?_of_block (w := w) (a := ⟨g, i * 3, none⟩) hb).trans (h.c0 i e he), fun i e he => (World.cell?_of_block (w := w) (a := ⟨g, i * 3 + 1, none⟩) hb).trans (h.c1 i e he), fun i e he => (World.cell?_of_block (w := w) (a := ⟨g, i * 3 + 2, none⟩) hb).trans (h.c2 i e he), fun o ho => (World.frozen?_of_block (w := w) (a := ⟨g, o, none⟩) hb).trans (h.fz o ho)⟩
theorem kp {T : Nat → Prop} (h : RW w g es) (hk : Kp T w w') (hg : g < w.heap.size) (hn : ¬ T g) : RW w' g es := h.block (hk.block g hg hn)
theorem lt (h : RW w g es) (hl : 0 < es.length) : g < w.heap.size := by
  have := h.c0 0 es[0] (List.getElem?_eq_getElem hl)
  exact block_lt_of_cell this
theorem take (h : RW w g es) (n : Nat) : RW w g (es.take n) :=
  ⟨fun i e he => h.c0 i e (take_get he), fun i e he => h.c1 i e (take_get he), fun i e he => h.c2 i e (take_get he), fun o ho => h.fz o (by rw [List.length_take] at ho; omega)⟩
end RW

set_option maxRecDepth 20000 in
theorem zero_any (e : En) (W : World) : Calls Ybaf.prog 32 #[.agg #[.int .u64 e.f, .int .u64 e.n, .int .i64 e.a]] W fun r w' => r = .returned (.bool (decide (e.n = 0))) ∧ Below W.heap.size W w' := by
  by_cases h : e.n = 0
  · rw [decide_eq_true h]
    have h' : (e.n : Int) = 0 := by omega
    go_enter Ybaf.func32, Ybaf.ntmps32
    go_wp2_with fail
    go_ret
    exact ⟨rfl, (Below.refl _ _).alloc (Nat.le_refl _) _⟩
  · rw [decide_eq_false h]
    have h' : ((e.n : Int) == 0) = false := by simpa using h
    go_enter Ybaf.func32, Ybaf.ntmps32
    go_wp2_with fail
    go_ret
    exact ⟨rfl, (Below.refl _ _).alloc (Nat.le_refl _) _⟩
end Go.Proofs.YbulkdlaoFmt
