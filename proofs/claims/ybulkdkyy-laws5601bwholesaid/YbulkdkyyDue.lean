import Derived.Test.YbulkdkyyNew
import Derived.BigQuiet
import Derived.Deep.LoopGhost
namespace Go.Proofs.Ybulkdkyy
set_option linter.unusedVariables false
set_option linter.unusedSimpArgs false
open Go.RowKit Go.MuLone
open Go.Sort (grow)

/-- What due hands back and leaves. -/
structure DuePost (w w' : World) (S c g cap : Nat) (sb : Nat → Nat) (d : Nat → Int) (k : Nat) (q : List Nat) (now : Int) (m : Int) (dv : Value) (base : Nat) (P q' : List Nat) : Prop where
  own : w'.ownsRow base 41 1 dv P.length (P.map fun i => .pointer (some ⟨sb i, 0, none⟩))
  hw : HW w' g cap sb d k q'
  srv : Srv w' S m (.slice (some ⟨g, 0, none⟩) q'.length cap) c
  heap : HeapOn (keyF d q') q'.length
  perm : (P ++ q').Perm q
  asc : P.Pairwise (fun a b => d a ≤ d b)
  low : ∀ a, a ∈ P → d a ≤ now
  apart : ∀ a, a ∈ P → ∀ b, b ∈ q' → d a ≤ d b
  kp : Kp (Ts S (.slice (some ⟨g, 0, none⟩) q.length cap) sb k) w w'

theorem ownsRow_kp {w w' : World} {T : Nat → Prop} {base e n : Nat} {v : Value} {xs : List Value} (h : w.ownsRow base e 1 v n xs) (hk : Kp T w w') (hT : ∀ b, base ≤ b → ¬ T b) : w'.ownsRow base e 1 v n xs := by
  refine ⟨h.1, ?_⟩
  rcases h.2 with h0 | ⟨g, cap, cur, hv, hb0, hb, r⟩
  · exact .inl h0
  · exact .inr ⟨g, cap, cur, hv, hb0, (hk.block g (Array.getElem?_eq_some_iff.1 hb).1 (hT g hb0)).trans hb, r⟩

/-- One more is popped. -/
theorem DuePost.step {w1 wr w3 w4 : World} {S c g cap : Nat} {sb : Nat → Nat} {d : Nat → Int} {k : Nat} {q : List Nat} {now : Int} {m : Int} {dv dv' : Value} {base : Nat} {P q' q2 : List Nat} {x : Nat}
    (D : DuePost w1 wr S c g cap sb d k q now m dv base P q') (hx : x = q'.getD 0 0) (hl : 0 < q'.length) (hle : d x ≤ now) (hp : (q2 ++ [x]).Perm q') (h3 : HW w3 g cap sb d k q2) (hS3 : Srv w3 S m (.slice (some ⟨g, 0, none⟩) q2.length cap) c)
    (hh3 : HeapOn (keyF d q2) q2.length) (hk3 : Kp (Ts S (.slice (some ⟨g, 0, none⟩) q'.length cap) sb k) wr w3) (hown : w4.ownsRow base 41 1 dv' (P.length + 1) ((P.map fun i => .pointer (some ⟨sb i, 0, none⟩)) ++ [.pointer (some ⟨sb x, 0, none⟩)]))
    (hg4 : (w3.alloc (.cells #[.pointer (some ⟨sb x, 0, none⟩)] 41)).grownBy w4 dv.ownBlock) (hbase : w1.heap.size = base) (hT : ∀ b, base ≤ b → ¬ Ts S (.slice (some ⟨g, 0, none⟩) q.length cap) sb k b) :
    DuePost w1 w4 S c g cap sb d k q now m dv' base (P ++ [x]) q2 := by
  have hdv : ∀ b, dv.ownBlock = some b → base ≤ b := fun b hb => (D.own.lt b hb).1
  have hblk : ∀ b, b < w3.heap.size → dv.ownBlock ≠ some b → w4.heap[b]? = w3.heap[b]? := fun b hb hne => by
    rw [hg4.block b (by simp; omega) (fun e => hne e.symm), RowKit.Below.heap_alloc _ _ _ hb]
  have hmin : ∀ b, b ∈ q' → d x ≤ d b := fun b hb => by
    obtain ⟨j, hj, e⟩ := List.getElem_of_mem hb
    have := heap_min D.heap j hj
    unfold keyF at this
    rw [← hx, getD_eq_getElem _ _ hj, e] at this; exact this
  have hxq : x ∈ q' := by rw [hx]; exact getD_mem hl
  refine ⟨by simpa using hown, ?_, ?_, hh3, ?_, ?_, ?_, ?_, ?_⟩
  · refine h3.of_blocks (hblk _ h3.lt (fun e => hT _ (hdv _ e) (.inr (.inl rfl)))) (fun i hi => ?_)
    obtain ⟨y, hy⟩ := h3.any hi
    exact hblk _ hy.lt (fun e => hT _ (hdv _ e) (.inr (.inr ⟨i, hi, rfl⟩)))
  · exact hS3.of_block (hblk _ hS3.lt (fun e => hT _ (hdv _ e) (.inl rfl)))
  · have h1 : (P ++ [x] ++ q2).Perm (P ++ (q2 ++ [x])) := by
      rw [List.append_assoc]
      exact List.Perm.append_left P List.perm_append_comm
    exact h1.trans ((List.Perm.append_left P hp).trans D.perm)
  · rw [List.pairwise_append]
    exact ⟨D.asc, by simp, fun a ha b hb => by simp at hb; subst hb; exact D.apart a ha _ hxq⟩
  · intro a ha
    simp at ha
    rcases ha with ha | rfl
    · exact D.low a ha
    · exact hle
  · intro a ha b hb
    have hb' : b ∈ q' := hp.mem_iff.1 (by simp [hb])
    simp at ha
    rcases ha with ha | rfl
    · exact D.apart a ha b hb'
    · exact hmin b hb'
  · have hsz : w3.heap.size ≤ w4.heap.size := by have := hg4.size; simp at this; omega
    have hk4 : Kp (Ts S (.slice (some ⟨g, 0, none⟩) q.length cap) sb k) w1 w3 := D.kp.trans hk3
    exact ⟨hg4.os.trans hk4.os, hg4.tape.trans hk4.tape, hg4.output.trans hk4.output, Nat.le_trans hk4.size hsz, fun b hb ht => (hblk b (Nat.lt_of_lt_of_le hb hk4.size) (fun e => by have := hdv b e; omega)).trans (hk4.block b hb ht)⟩

theorem DuePost.below {w1 wr w2 : World} {S c g cap : Nat} {sb : Nat → Nat} {d : Nat → Int} {k : Nat} {q : List Nat} {now : Int} {m : Int} {dv : Value} {base : Nat} {P q' : List Nat}
    (D : DuePost w1 wr S c g cap sb d k q now m dv base P q') (hb : Below wr.heap.size wr w2) : DuePost w1 w2 S c g cap sb d k q now m dv base P q' :=
  ⟨ownsRow_kp (T := fun _ => False) D.own (Kp.ofBelow hb) (fun _ _ h => h), D.hw.below hb, D.srv.of_block (hb.block _ D.srv.lt), D.heap, D.perm, D.asc, D.low, D.apart, D.kp.trans (Kp.ofBelow hb)⟩

theorem three_cells {w : World} {r : Nat} {f : Nat → Value} (h : w.rowIs r 49 3 f) (A B C : Value) :
    let w5 := (((w.setCell ⟨r, 0, none⟩ A).setCell ⟨r, 1, none⟩ B).setCell ⟨r, 2, none⟩ C).drew
    w5.cell? ⟨r, 0, none⟩ = some A ∧ w5.cell? ⟨r, 1, none⟩ = some B ∧ w5.cell? ⟨r, 2, none⟩ = some C := by
  have R := (((h.set 0 A).set 1 B).set 2 C).drew
  exact ⟨by simpa using R.cell (i := 0) (by omega), by simpa using R.cell (i := 1) (by omega), by simpa using R.cell (i := 2) (by omega)⟩

theorem six_cells {w : World} {r : Nat} {f : Nat → Value} (h : w.rowIs r 49 3 f) (A B C : Value) :
    let w5 := ((((((w.setCell ⟨r, 0, none⟩ A).setCell ⟨r, 1, none⟩ B).setCell ⟨r, 2, none⟩ C).setCell ⟨r, 0, none⟩ A).setCell ⟨r, 1, none⟩ B).setCell ⟨r, 2, none⟩ C).drew
    w5.cell? ⟨r, 0, none⟩ = some A ∧ w5.cell? ⟨r, 1, none⟩ = some B ∧ w5.cell? ⟨r, 2, none⟩ = some C := by
  have R := ((((((h.set 0 A).set 1 B).set 2 C).set 0 A).set 1 B).set 2 C).drew
  exact ⟨by simpa using R.cell (i := 0) (by omega), by simpa using R.cell (i := 1) (by omega), by simpa using R.cell (i := 2) (by omega)⟩

theorem row_of_block {w : World} {r : Nat} {a b c : Value} (h : w.heap[r]? = some (.cells #[a, b, c] 49)) : w.rowIs r 49 3 (fun j => (#[a, b, c] : Array Value).getD j undef) :=
  ⟨_, h, rfl, fun j hj => by
    have : j = 0 ∨ j = 1 ∨ j = 2 := by omega
    rcases this with rfl | rfl | rfl <;> rfl⟩

/-- The end: the result's cell has been written, the lock is given back. -/
theorem DuePost.done {w w1 w2 w5 : World} {S c g cap : Nat} {sb : Nat → Nat} {d : Nat → Int} {k : Nat} {q : List Nat} {now : Int} {dv : Value} {P q' : List Nat} {r : Nat}
    (D : DuePost w1 w2 S c g cap sb d k q now 1 dv w1.heap.size P q') (h1 : Kp (Ts S (.slice (some ⟨g, 0, none⟩) q.length cap) sb k) w w1) (hr : w.heap.size ≤ r ∧ r < w1.heap.size) (hT : ¬ Ts S (.slice (some ⟨g, 0, none⟩) q.length cap) sb k r)
    (hTb : ∀ b, w1.heap.size ≤ b → ¬ Ts S (.slice (some ⟨g, 0, none⟩) q.length cap) sb k b) (hk : Kp (fun b => b = r) w2 w5) :
    w5.cell? ⟨S, 6, none⟩ = some (.int .i32 1) ∧ w5.frozen? ⟨S, 6, none⟩ = false ∧ DuePost w (w5.setCell ⟨S, 6, none⟩ (.int .i32 0)) S c g cap sb d k q now 0 dv w.heap.size P q' := by
  have hS5 := D.srv.of_block (hk.block _ D.srv.lt (fun e => hT (.inl e.symm)))
  have hw5 : HW w5 g cap sb d k q' := D.hw.kp hk (by
    rintro b rfl (e | ⟨j, hj, e⟩)
    · exact hT (.inr (.inl (by rw [e]; rfl)))
    · exact hT (.inr (.inr ⟨j, hj, e⟩)))
  have hSs : ∀ j, j < k → sb j ≠ S := fun j hj e => by obtain ⟨x, hx⟩ := hw5.any hj; exact hS5.ne_sess hx e.symm
  have hSg : S ≠ g := by obtain ⟨cur, hb, _⟩ := hw5.row; exact hS5.ne_row hb (by decide)
  refine ⟨hS5.lock, hS5.frozen 6, ?_, hw5.of_blocks (RowKit.Below.heap_setCell _ _ _ _ (Ne.symm hSg)) (fun j hj => RowKit.Below.heap_setCell _ _ _ _ (hSs j hj)), hS5.setLock 0, D.heap, D.perm, D.asc, D.low, D.apart, ?_⟩
  · have o5 := ownsRow_kp D.own hk (fun b hb e => by omega)
    have o6 : (w5.setCell ⟨S, 6, none⟩ (.int .i32 0)).ownsRow w1.heap.size 41 1 dv P.length (P.map fun i => .pointer (some ⟨sb i, 0, none⟩)) :=
      ownsRow_kp (T := fun b => b = S) o5 ((Kp.refl (fun b => b = S) w5).setCell (.inl rfl) _) (fun b hb e => hTb b hb (.inl e))
    refine ⟨o6.1, ?_⟩
    rcases o6.2 with h0 | ⟨g', cap', cur, hv, hb0, r'⟩
    · exact .inl h0
    · exact .inr ⟨g', cap', cur, hv, Nat.le_trans h1.size hb0, r'⟩
  · have h2 : Kp (Ts S (.slice (some ⟨g, 0, none⟩) q.length cap) sb k) w w2 := h1.trans D.kp
    have h5 : Kp (Ts S (.slice (some ⟨g, 0, none⟩) q.length cap) sb k) w w5 := ⟨hk.os.trans h2.os, hk.tape.trans h2.tape, hk.output.trans h2.output, Nat.le_trans h2.size hk.size, fun b hb ht => (hk.block b (Nat.lt_of_lt_of_le hb h2.size) (by omega)).trans (h2.block b hb ht)⟩
    exact h5.setCell (.inl (.inl rfl)) _

set_option maxRecDepth 10000 in
set_option maxHeartbeats 1000000 in
theorem due_any {w : World} {g cap : Nat} {sb : Nat → Nat} {d : Nat → Int} {k : Nat} {q : List Nat} (h : HW w g cap sb d k q) (S c : Nat) (now : Int) (hnow : -9223372036854775808 ≤ now ∧ now ≤ 9223372036854775807)
    (hS : Srv w S 0 (.slice (some ⟨g, 0, none⟩) q.length cap) c) (hq : q.length ≤ 65536) (hh : HeapOn (keyF d q) q.length) :
    Calls Yba.prog 9 #[.pointer (some ⟨S, 0, none⟩), .agg #[.int .u64 (nsOf now), .int .i64 (scOf now), .pointer none]] w fun e w' => ∃ dv P q' nx, e = .returned (.tuple #[dv, .agg #[.int .u64 (nsOf nx), .int .i64 (scOf nx), .pointer none]]) ∧
      DuePost w w' S c g cap sb d k q now 0 dv w.heap.size P q' ∧ (∀ b, b ∈ q' → now < d b) ∧ (q' = [] → nx = 0) ∧ (q' ≠ [] → nx = d (q'.getD 0 0)) := by
  obtain ⟨wb, hwb⟩ : ∃ wb, wb = (w.alloc (.cells #[.int .u64 (nsOf now), .int .i64 (scOf now), .pointer none] 49)).alloc (.cells #[.int .u64 0, .int .i64 0, .pointer none] 49) := ⟨_, rfl⟩
  have hbb : Below w.heap.size w wb := by rw [hwb]; exact ((Below.refl _ w).alloc (Nat.le_refl _) _).alloc (by simp) _
  have b0 : wb.heap[w.heap.size]? = some (.cells #[.int .u64 (nsOf now), .int .i64 (scOf now), .pointer none] 49) := by
    rw [hwb, RowKit.Below.heap_alloc _ _ _ (by simp)]; exact Deep.blk_alloc_new _ _
  have b1 : wb.heap[w.heap.size + 1]? = some (.cells #[.int .u64 0, .int .i64 0, .pointer none] 49) := by
    have := Deep.blk_alloc_new (w.alloc (.cells #[.int .u64 (nsOf now), .int .i64 (scOf now), .pointer none] 49)) (.cells #[.int .u64 0, .int .i64 0, .pointer none] 49)
    rw [World.size_alloc] at this; rw [hwb]; exact this
  have hsz : wb.heap.size = w.heap.size + 2 := by rw [hwb]; simp
  have hSb : Srv wb S 0 (.slice (some ⟨g, 0, none⟩) q.length cap) c := hS.of_block (hbb.block _ hS.lt)
  have hb : HW wb g cap sb d k q := h.below hbb
  have hS0 := hS.lt
  go_enter_defers Yba.func9, Yba.ntmps9
  go_wp2_with fail
  rw [← hwb]
  refine (lock_any hSb).mono ?_
  rintro e w1 ⟨rfl, hS1, hk1⟩
  have c0 : w1.heap[w.heap.size]? = some (.cells #[.int .u64 (nsOf now), .int .i64 (scOf now), .pointer none] 49) := by rw [hk1.block _ (by omega) (by omega)]; exact b0
  have c1 : w1.heap[w.heap.size + 1]? = some (.cells #[.int .u64 0, .int .i64 0, .pointer none] 49) := by rw [hk1.block _ (by omega) (by omega)]; exact b1
  clear hwb b0 b1
  go_wp2_with fail
  have hk1' : Kp (Ts S (.slice (some ⟨g, 0, none⟩) q.length cap) sb k) w w1 := (Kp.ofBelow hbb).trans (hk1.wider (fun b _ e => .inl e))
  have hSs : ∀ j, j < k → sb j ≠ S := fun j hj e => by obtain ⟨x, hx⟩ := h.any hj; exact hS.ne_sess hx e.symm
  have hSg : S ≠ g := by obtain ⟨cur, hb, _⟩ := h.row; exact hS.ne_row hb (by decide)
  have h1 : HW w1 g cap sb d k q := hb.kp hk1 (by rintro b rfl (e | ⟨j, hj, e⟩); exact hSg e; exact hSs j hj e.symm)
  have hsz1 : w.heap.size + 2 ≤ w1.heap.size := by have := hk1.size; omega
  have hT0 : ¬ Ts S (.slice (some ⟨g, 0, none⟩) q.length cap) sb k w.heap.size := by
    rintro (e | e | ⟨j, hj, e⟩)
    · omega
    · have := h.lt; simp [Value.ownBlock] at e; omega
    · obtain ⟨x, hx⟩ := h.any hj; have := hx.lt; omega
  have hT1 : ¬ Ts S (.slice (some ⟨g, 0, none⟩) q.length cap) sb k (w.heap.size + 1) := by
    rintro (e | e | ⟨j, hj, e⟩)
    · omega
    · have := h.lt; simp [Value.ownBlock] at e; omega
    · obtain ⟨x, hx⟩ := h.any hj; have := hx.lt; omega
  go_loopg [4] q.length (fun gk dv wr => ∃ P q', q'.length = gk ∧ DuePost w1 wr S c g cap sb d k q now 1 dv w1.heap.size P q')
  case atStart =>
    exact ⟨[], q, rfl, World.ownsRow_nil _ _ _ _, h1, hS1, hh, by simp, List.Pairwise.nil, by simp, by simp, Kp.refl _ _⟩
  case round =>
    obtain ⟨P, q', hgk, D⟩ := hrel
    have e0 : wr.heap[w.heap.size]? = some (.cells #[.int .u64 (nsOf now), .int .i64 (scOf now), .pointer none] 49) := by rw [D.kp.block _ (by omega) hT0]; exact c0
    have x0 : wr.cell? ⟨w.heap.size, 0, none⟩ = some (.int .u64 (nsOf now)) := by simp [World.cell?, e0]
    have x1 : wr.cell? ⟨w.heap.size, 1, none⟩ = some (.int .i64 (scOf now)) := by simp [World.cell?, e0]
    have x2 : wr.cell? ⟨w.heap.size, 2, none⟩ = some (.pointer none) := by simp [World.cell?, e0]
    have hex := D.srv.exp
    have hTb : ∀ b, w1.heap.size ≤ b → ¬ Ts S (.slice (some ⟨g, 0, none⟩) q.length cap) sb k b := by
      rintro b hb (e | e | ⟨j, hj, e⟩)
      · omega
      · have := h.lt; simp [Value.ownBlock] at e; omega
      · obtain ⟨x, hx⟩ := h.any hj; have := hx.lt; omega
    have hPl : P.length + q'.length ≤ 65536 := by have := D.perm.length_eq; simp at this; omega
    by_cases hq' : q' = []
    · subst hq'
      have hgt : decide ((0 : Int) < ((0 : Nat) : Int)) = false := by simp
      have k0 := fun dd os => cell_regrown hex dd os
      clear hgk x0 x1 x2 hex
      simp only [List.length_nil] at k0
      go_wp2_with fail
      refine wp_region_quiet_below (by kernel_rfl) (by kernel_rfl) ?_
      repeat (first | go_big_quiet_step (fail) | quiet_step (fail))
      refine wpQuiet_nil ?_
      intro _ hw'
      obtain ⟨⟨dq, osq⟩, hw''⟩ := hw'
      subst hw''
      have hb2 := below_regrown wr dq osq
      clear k0
      generalize grow (redrawn wr dq) osq = w2 at *
      have D2 := D.below hb2
      have hex2 := D2.srv.exp
      simp only [List.length_nil] at hex2
      have e1 : w2.heap[w.heap.size + 1]? = some (.cells #[.int .u64 0, .int .i64 0, .pointer none] 49) := by rw [D2.kp.block _ (by omega) hT1]; exact c1
      have y0 : w2.cell? ⟨w.heap.size + 1, 0, none⟩ = some (.int .u64 0) := by simp [World.cell?, e1]
      have y1 : w2.cell? ⟨w.heap.size + 1, 1, none⟩ = some (.int .i64 0) := by simp [World.cell?, e1]
      have y2 : w2.cell? ⟨w.heap.size + 1, 2, none⟩ = some (.pointer none) := by simp [World.cell?, e1]
      have f0 : w2.frozen? ⟨w.heap.size + 1, 0, none⟩ = false := by simp [World.frozen?, e1]
      have f1 : w2.frozen? ⟨w.heap.size + 1, 1, none⟩ = false := by simp [World.frozen?, e1]
      have f2 : w2.frozen? ⟨w.heap.size + 1, 2, none⟩ = false := by simp [World.frozen?, e1]
      have HR : Hid (w2.rowIs (w.heap.size + 1) 49 3 _) := row_of_block e1
      clear e1
      go_wp2_with fail
      refine wp_region_noPanic ?_
      go_region
      refine NoPanic.normal ?_
      go_wp2_with fail
      have hk5 : Kp (fun b => b = w.heap.size + 1) w2 (((w2.setCell ⟨w.heap.size + 1, 0, none⟩ (.int .u64 0)).setCell ⟨w.heap.size + 1, 1, none⟩ (.int .i64 0)).setCell ⟨w.heap.size + 1, 2, none⟩ (.pointer none)).drew :=
        ((((Kp.refl (fun b => b = w.heap.size + 1) w2).setCell (.inl rfl) _).setCell (.inl rfl) _).setCell (.inl rfl) _).drew
      obtain ⟨q0, q1, q2⟩ := three_cells HR.out (.int .u64 0) (.int .i64 0) (.pointer none)
      generalize (((w2.setCell ⟨w.heap.size + 1, 0, none⟩ (.int .u64 0)).setCell ⟨w.heap.size + 1, 1, none⟩ (.int .i64 0)).setCell ⟨w.heap.size + 1, 2, none⟩ (.pointer none)).drew = w5 at *
      obtain ⟨l5, g5, D5⟩ := D2.done hk1' ⟨by omega, by omega⟩ hT1 hTb hk5
      refine leaves_cons (f := 13) (args := #[.pointer (some ⟨S, 6, none⟩)]) (by simp) (by simp [go_sem]) ?_
      refine (unlock_deferred muLib ⟨S, 6, none⟩ .returning _ l5 g5).mono ?_
      rintro e u' w'' ⟨rfl, rfl, rfl⟩
      have hNS : S ≠ w.heap.size + 1 := by omega
      exact ⟨.tuple #[u4, .agg #[.int .u64 (nsOf 0), .int .i64 (scOf 0), .pointer none]], by simp [results, Yba.results9, go_sem, q0, q1, q2, hNS, nsOf, scOf], u4, P, [], 0, rfl, D5, by simp, fun _ => rfl, fun e => absurd rfl e⟩
    · have hql : 0 < q'.length := List.length_pos_iff.2 hq'
      have hgt' : (0 : Int) < (q'.length : Int) := by omega
      obtain ⟨x, hx⟩ : ∃ x, x = q'.getD 0 0 := ⟨_, rfl⟩
      have hs0 := D.hw.inq 0 hql
      have hc0 := D.hw.cell hql
      rw [← hx] at hs0 hc0
      have k0 := fun dd os => cell_regrown hex dd os
      have k1 := fun dd os => cell_regrown hc0 dd os
      have k2 := fun dd os => cell_regrown hs0.dl0 dd os
      have k3 := fun dd os => cell_regrown hs0.dl1 dd os
      have k4 := fun dd os => cell_regrown hs0.dl2 dd os
      have k5 := fun dd os => cell_regrown x0 dd os
      have k6 := fun dd os => cell_regrown x1 dd os
      have k7 := fun dd os => cell_regrown x2 dd os
      have cA := fun dd os => Calls.regrown_of (after_low (nsOf (d x)) (scOf (d x)) (nsOf now) (scOf now) (grow (redrawn wr dd) os) (nsOf_lo _) (nsOf_hi _) (nsOf_lo _) (nsOf_hi _) (decide (now < d x)) (gt_of_parts (d x) now))
      have HG : Hid (q'.length = gk ∧ x = q'.getD 0 0) := ⟨hgk, hx⟩
      clear hgk hx x0 x1 x2 hex hc0 hs0
      go_wp2_with fail
      refine wp_region_quiet_below (by kernel_rfl) (by kernel_rfl) ?_
      repeat (first | go_big_quiet_step (exact cA _ _) | quiet_step (exact cA _ _))
      refine wpQuiet_nil ?_
      intro _ hw'
      obtain ⟨⟨dq, osq⟩, hw''⟩ := hw'
      subst hw''
      have hb2 := below_regrown wr dq osq
      clear k0 k1 k2 k3 k4 k5 k6 k7 cA
      generalize grow (redrawn wr dq) osq = w2 at *
      have D2 := D.below hb2
      have hex2 := D2.srv.exp
      by_cases hlt : now < d x
      · have hlt' : decide (now < d x) = true := by simpa using hlt
        rw [hlt']
        have e1 : w2.heap[w.heap.size + 1]? = some (.cells #[.int .u64 0, .int .i64 0, .pointer none] 49) := by rw [D2.kp.block _ (by omega) hT1]; exact c1
        have y0 : w2.cell? ⟨w.heap.size + 1, 0, none⟩ = some (.int .u64 0) := by simp [World.cell?, e1]
        have y1 : w2.cell? ⟨w.heap.size + 1, 1, none⟩ = some (.int .i64 0) := by simp [World.cell?, e1]
        have y2 : w2.cell? ⟨w.heap.size + 1, 2, none⟩ = some (.pointer none) := by simp [World.cell?, e1]
        have f0 : w2.frozen? ⟨w.heap.size + 1, 0, none⟩ = false := by simp [World.frozen?, e1]
        have f1 : w2.frozen? ⟨w.heap.size + 1, 1, none⟩ = false := by simp [World.frozen?, e1]
        have f2 : w2.frozen? ⟨w.heap.size + 1, 2, none⟩ = false := by simp [World.frozen?, e1]
        have hs2 := D2.hw.inq 0 hql
        have hc2 := D2.hw.cell hql
        rw [← HG.out.2] at hs2 hc2
        have z0 := hs2.dl0
        have z1 := hs2.dl1
        have z2 := hs2.dl2
        have HR : Hid (w2.rowIs (w.heap.size + 1) 49 3 _) := row_of_block e1
        clear e1
        go_wp2_with fail
        refine wp_region_noPanic ?_
        go_region
        refine NoPanic.normal ?_
        go_wp2_with fail
        have hk5 : Kp (fun b => b = w.heap.size + 1) w2 ((((((w2.setCell ⟨w.heap.size + 1, 0, none⟩ (.int .u64 (nsOf (d x)))).setCell ⟨w.heap.size + 1, 1, none⟩ (.int .i64 (scOf (d x)))).setCell ⟨w.heap.size + 1, 2, none⟩ (.pointer none)).setCell ⟨w.heap.size + 1, 0, none⟩ (.int .u64 (nsOf (d x)))).setCell ⟨w.heap.size + 1, 1, none⟩ (.int .i64 (scOf (d x)))).setCell ⟨w.heap.size + 1, 2, none⟩ (.pointer none)).drew :=
          (((((((Kp.refl (fun b => b = w.heap.size + 1) w2).setCell (.inl rfl) _).setCell (.inl rfl) _).setCell (.inl rfl) _).setCell (.inl rfl) _).setCell (.inl rfl) _).setCell (.inl rfl) _).drew
        obtain ⟨q0, q1, q2⟩ := six_cells HR.out (.int .u64 (nsOf (d x))) (.int .i64 (scOf (d x))) (.pointer none)
        generalize ((((((w2.setCell ⟨w.heap.size + 1, 0, none⟩ (.int .u64 (nsOf (d x)))).setCell ⟨w.heap.size + 1, 1, none⟩ (.int .i64 (scOf (d x)))).setCell ⟨w.heap.size + 1, 2, none⟩ (.pointer none)).setCell ⟨w.heap.size + 1, 0, none⟩ (.int .u64 (nsOf (d x)))).setCell ⟨w.heap.size + 1, 1, none⟩ (.int .i64 (scOf (d x)))).setCell ⟨w.heap.size + 1, 2, none⟩ (.pointer none)).drew = w5 at *
        obtain ⟨l5, g5, D5⟩ := D2.done hk1' ⟨by omega, by omega⟩ hT1 hTb hk5
        refine leaves_cons (f := 13) (args := #[.pointer (some ⟨S, 6, none⟩)]) (by simp) (by simp [go_sem]) ?_
        refine (unlock_deferred muLib ⟨S, 6, none⟩ .returning _ l5 g5).mono ?_
        rintro e u' w'' ⟨rfl, rfl, rfl⟩
        have hNS : S ≠ w.heap.size + 1 := by omega
        refine ⟨.tuple #[u4, .agg #[.int .u64 (nsOf (d x)), .int .i64 (scOf (d x)), .pointer none]], by simp [results, Yba.results9, go_sem, q0, q1, q2, hNS], u4, P, q', d x, rfl, D5, ?_, fun e => absurd e hq', fun _ => by rw [HG.out.2]⟩
        intro b hb
        obtain ⟨j, hj, e⟩ := List.getElem_of_mem hb
        have := heap_min D.heap j hj
        unfold keyF at this
        rw [← HG.out.2, getD_eq_getElem _ _ hj, e] at this
        omega
      · have hlt' : decide (now < d x) = false := by simpa using hlt
        rw [hlt']
        have ta := assert41 (sb x)
        obtain ⟨i0, hi, hz0, hz1, hz2⟩ := info_parts Yba.info41
        go_wp2_with fail
        have hpop := hpop_any D2.hw S 1 c D2.srv hql (by omega) D2.heap
        rw [← HG.out.2] at hpop
        refine hpop.mono ?_
        rintro e w3 ⟨rfl, q2, hp2, h3, hS3, hh3, hk3⟩
        clear hpop
        have hown3 := ownsRow_kp D2.own hk3 hTb
        have hw13 : w1.heap.size ≤ w3.heap.size := Nat.le_trans D2.kp.size hk3.size
        go_wp2_with (at_builtin; refine wpList_append_own_at _ rfl _ _ 37 rfl w1.heap.size 41 i0 (.pointer none) 1 8 Yba.underlying37 hi hz0 hz1 hz2 rfl (by decide) _ _ _ rfl (hown3.alloc _) ⟨w3.heap.size, 0, none⟩ 1 1 [.pointer (some ⟨sb x, 0, none⟩)] rfl rfl ?q1 ?q2 ?q3 ?q4 ?q5 ?q6)
        case q1 => exact cell_one_new w3 _ 41
        case q2 => intro u hu; simp at hu; subst hu; rfl
        case q3 => unfold maxLen; omega
        case q4 => omega
        case q5 => simp; omega
        intro v' w4 hown4 hgrow hnil hloc
        have D4 := D2.step HG.out.2 hql (by omega) hp2 h3 hS3 hh3 hk3 hown4 hgrow rfl hTb
        have hl4 : q2.length < gk := by have := hp2.length_eq; simp at this; have := HG.out.1; omega
        go_wp2_with fail
        go_roundg q2.length
        case measure => exact hl4
        case rel => exact ⟨_, _, rfl, D4⟩
end Go.Proofs.Ybulkdkyy
