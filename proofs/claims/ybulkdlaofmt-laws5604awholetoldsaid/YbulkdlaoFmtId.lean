import Derived.Test.YbulkdlaoFmtFo
import Derived.Test.YbulkdlaoFmtShelf
import Derived.Sort.Grow
namespace Go.Proofs.YbulkdlaoFmt
set_option linter.unusedVariables false
set_option linter.unusedSimpArgs false
open Go.RowKit
open Go.Sort (grow)

/-- An entry of a clock: its three cells, and which of the twelve names it bears. -/
structure En where
  f : Int
  n : Nat
  a : Nat
  k : Nat
instance : Inhabited En := ⟨⟨0, 0, 0, 0⟩⟩
def encE (e : En) : List Value := [.int .u64 e.f, .int .u64 e.n, .int .i64 e.a]
theorem encE_len (e : En) : (encE e).length = 3 := rfl

/-- The entry's id stands in ids, and its form knows the id's length. -/
structure Ok (ids : ByteArray) (e : En) : Prop where
  k : e.k < 12
  f : 0 ≤ e.f
  len : flen e.f = (nm e.k).size
  fits : e.a + (nm e.k).size ≤ ids.size
  id : ids.extract e.a (e.a + (nm e.k).size) = nm e.k

theorem nm_size (k : Nat) : 0 < (nm k).size ∧ (nm k).size ≤ 30 := by
  unfold nm
  split <;> decide

theorem below_drewN (w : World) (m : Nat) : Below w.heap.size w (w.drewN m) := ⟨rfl, rfl, rfl, Nat.le_refl _, fun _ _ => rfl⟩

set_option maxRecDepth 20000 in
set_option maxHeartbeats 400000 in
theorem id_q {ids : ByteArray} {e : En} (h : Ok ids e) (hi : ids.size ≤ 1048576) (b o : Nat) (w : World) (c0 : w.cell? ⟨b, o, none⟩ = some (.int .u64 e.f)) (c2 : w.cell? ⟨b, o + 2, none⟩ = some (.int .i64 e.a)) :
    Calls Ybaf.prog 30 #[.pointer (some ⟨b, o, none⟩), .string ids] w fun e' w' => e' = .returned (.string (nm e.k)) ∧ ∃ m, w' = w.drewN m := by
  obtain ⟨s, hs⟩ : ∃ s, s = (nm e.k).size := ⟨_, rfl⟩
  have hf := h.fits
  have hx := h.id
  rw [← hs] at hf hx
  have cL := fun n => len_any e.f (w.drewN n) h.f
  rw [h.len, ← hs] at cL
  have b1 : (0 : Int) ≤ (e.a : Int) := by omega
  obtain ⟨q, hq⟩ : ∃ q, q = e.a + s := ⟨_, rfl⟩
  have hwq : IntKind.i64.wrap ((e.a : Int) + (s : Int)) = (q : Int) := by rw [wrap_id (by omega) (by omega)]; omega
  have b2 : (e.a : Int) ≤ (q : Int) := by omega
  have b3 : (q : Int) ≤ (ids.size : Int) := by omega
  rw [← hq] at hx
  have HX : Hid (ids.extract e.a q = nm e.k) := hx
  clear hx hq hs hf
  go_enter Ybaf.func30, Ybaf.ntmps30
  go_wp2_with fail
  go_quiet (exact Calls.quiet_of_same (cL _))
  go_wp2_with fail
  go_ret
  exact ⟨by rw [← HX.out]; rfl, nq, rfl⟩

theorem id_any {ids : ByteArray} {e : En} (h : Ok ids e) (hi : ids.size ≤ 1048576) (b o : Nat) (w : World) (c0 : w.cell? ⟨b, o, none⟩ = some (.int .u64 e.f)) (c2 : w.cell? ⟨b, o + 2, none⟩ = some (.int .i64 e.a)) :
    Calls Ybaf.prog 30 #[.pointer (some ⟨b, o, none⟩), .string ids] w fun e' w' => e' = .returned (.string (nm e.k)) ∧ Below w.heap.size w w' :=
  (id_q h hi b o w c0 c2).mono fun _ _ ⟨he, m, hm⟩ => ⟨he, by rw [hm]; exact below_drewN w m⟩

/-- A clock in memory. -/
structure CW (w : World) (C g cap : Nat) (a : Option Addr) (ids : ByteArray) (es : List En) : Prop where
  p0 : w.cell? ⟨C, 0, none⟩ = some (.slice a es.length cap)
  p1 : w.cell? ⟨C, 1, none⟩ = some (.string ids)
  form : 0 < es.length → a = some ⟨g, 0, none⟩
  c0 : ∀ (i : Nat) (e : En), es[i]? = some e → w.cell? ⟨g, i * 3, none⟩ = some (.int .u64 e.f)
  c1 : ∀ (i : Nat) (e : En), es[i]? = some e → w.cell? ⟨g, i * 3 + 1, none⟩ = some (.int .u64 e.n)
  c2 : ∀ (i : Nat) (e : En), es[i]? = some e → w.cell? ⟨g, i * 3 + 2, none⟩ = some (.int .i64 e.a)
  ok : ∀ e, e ∈ es → Ok ids e
  isz : ids.size ≤ 1048576
  len : es.length ≤ 12

theorem CW.below {w w' : World} {C g cap : Nat} {a : Option Addr} {ids : ByteArray} {es : List En} (h : CW w C g cap a ids es) (hb : Below w.heap.size w w') : CW w' C g cap a ids es where
  p0 := (hb.cell (block_lt_of_cell h.p0)).trans h.p0
  p1 := (hb.cell (block_lt_of_cell h.p1)).trans h.p1
  form := h.form
  c0 := fun i e he => (hb.cell (block_lt_of_cell (h.c0 i e he))).trans (h.c0 i e he)
  c1 := fun i e he => (hb.cell (block_lt_of_cell (h.c1 i e he))).trans (h.c1 i e he)
  c2 := fun i e he => (hb.cell (block_lt_of_cell (h.c2 i e he))).trans (h.c2 i e he)
  ok := h.ok
  isz := h.isz
  len := h.len

set_option maxRecDepth 20000 in
set_option maxHeartbeats 400000 in
theorem cid_any {w : World} {C g cap : Nat} {a : Option Addr} {ids : ByteArray} {es : List En} (h : CW w C g cap a ids es) {i : Nat} {e : En} (he : es[i]? = some e) :
    Calls Ybaf.prog 49 #[.pointer (some ⟨C, 0, none⟩), .int .i64 i] w fun e' w' => e' = .returned (.string (nm e.k)) ∧ Below w.heap.size w w' := by
  have hil : i < es.length := (List.getElem?_eq_some_iff.1 he).1
  obtain rfl := h.form (by omega)
  have k1 := fun d os => cell_regrown h.p0 d os
  have k2 := fun d os => cell_regrown h.p1 d os
  have cI := fun d os => Calls.regrown_of (id_any (h.ok e (List.mem_of_getElem? he)) h.isz g (i * 3) (grow (redrawn w d) os) (cell_regrown (h.c0 i e he) d os) (cell_regrown (h.c2 i e he) d os))
  have hi1 : (i : Int) < (es.length : Int) := by omega
  clear h he
  go_enter Ybaf.func49, Ybaf.ntmps49
  go_wp2_with fail
  refine wp_region_quiet_below (by kernel_rfl) (by kernel_rfl) ?_
  repeat (quiet_step (exact cI _ _))
  refine wpQuiet_nil ?_
  intro _ hw'
  obtain ⟨⟨dq, osq⟩, hw''⟩ := hw'
  subst hw''
  go_wp2_with fail
  go_ret
  exact ⟨rfl, below_regrown w dq osq⟩

/-! strings.Compare, and the order that newClock sorts by. -/
def cmpB (a b : ByteArray) : Int := Lib.compareBytes a.data.toList b.data.toList
theorem cmp_any (a b : ByteArray) (w : World) : Calls Ybaf.prog 29 #[.string a, .string b] w fun e w' => e = .returned (.int .i64 (cmpB a b)) ∧ w' = w :=
  Any.strings_Compare Ybaf.lcmp a b w

set_option maxRecDepth 20000 in
set_option maxHeartbeats 400000 in
theorem closure_any {ids : ByteArray} {x y : En} (hx : Ok ids x) (hy : Ok ids y) (hi : ids.size ≤ 1048576) (I : Nat) (W : World) (cI : W.cell? ⟨I, 0, none⟩ = some (.string ids)) :
    Calls Ybaf.prog 28 #[.agg #[.int .u64 x.f, .int .u64 x.n, .int .i64 x.a], .agg #[.int .u64 y.f, .int .u64 y.n, .int .i64 y.a], .pointer (some ⟨I, 0, none⟩)] W fun e w' => e = .returned (.int .i64 (cmpB (nm x.k) (nm y.k))) ∧ ∃ q os', w' = grow (W.drewN q) os' := by
  obtain ⟨W2, hW2⟩ : ∃ W2, W2 = (W.alloc (.cells #[.int .u64 x.f, .int .u64 x.n, .int .i64 x.a] 34)).alloc (.cells #[.int .u64 y.f, .int .u64 y.n, .int .i64 y.a] 34) := ⟨_, rfl⟩
  have hlI := block_lt_of_cell cI
  have kI : W2.cell? ⟨I, 0, none⟩ = some (.string ids) := by
    rw [hW2, Below.cell (B := W.heap.size) (((Below.refl _ W).alloc (Nat.le_refl _) _).alloc (by simp) _) hlI]; exact cI
  have x0 : W2.cell? ⟨W.heap.size, 0, none⟩ = some (.int .u64 x.f) := by rw [hW2]; simp
  have x2 : W2.cell? ⟨W.heap.size, 2, none⟩ = some (.int .i64 x.a) := by rw [hW2]; simp
  have hyb : W2.heap[W.heap.size + 1]? = some (.cells #[.int .u64 y.f, .int .u64 y.n, .int .i64 y.a] 34) := by
    rw [hW2]
    have := heap_alloc_new (W.alloc (.cells #[.int .u64 x.f, .int .u64 x.n, .int .i64 x.a] 34)) (.cells #[.int .u64 y.f, .int .u64 y.n, .int .i64 y.a] 34)
    simpa using this
  have y0 : W2.cell? ⟨W.heap.size + 1, 0, none⟩ = some (.int .u64 y.f) := by simp [World.cell?, hyb]
  have y2 : W2.cell? ⟨W.heap.size + 1, 2, none⟩ = some (.int .i64 y.a) := by simp [World.cell?, hyb]
  obtain ⟨p1, hp1⟩ : ∃ p1, p1 = W.heap.size := ⟨_, rfl⟩
  obtain ⟨p2, hp2⟩ : ∃ p2, p2 = W.heap.size + 1 := ⟨_, rfl⟩
  rw [← hp1] at x0 x2
  rw [← hp2] at y0 y2
  have cX := fun n => Calls.quiet_of (id_q hx hi p1 0 (W2.drewN n) x0 x2)
  have cY := fun n => Calls.quiet_of (id_q hy hi p2 0 (W2.drewN n) y0 y2)
  have cC := fun n => cmp_any (nm x.k) (nm y.k) (W2.drewN n)
  have HW : Hid (∀ q, ∃ os', W2.drewN q = grow (W.drewN q) os') := fun q => ⟨_, by rw [hW2, Go.Sort.alloc_eq_grow, Go.Sort.alloc_eq_grow, Go.Sort.grow_grow]; rfl⟩
  go_enter Ybaf.func28, Ybaf.ntmps28
  go_wp2_with fail
  rw [← hW2, ← hp2, ← hp1]
  clear hW2 hp1 hp2 hyb x0 x2 y0 y2
  go_quiet (first | (go_at_call 29; exact Calls.quiet_of_same (cC _)) | (go_at_call 30; with_reducible exact cX _) | (go_at_call 30; with_reducible exact cY _))
  go_wp2_with fail
  go_ret
  obtain ⟨os', h⟩ := HW.out nq
  exact ⟨rfl, nq, os', h⟩
end Go.Proofs.YbulkdlaoFmt
