import Derived.Test.YbulkdkyySort
import Derived.Deep.CutBlock
import Derived.Deep.DeepCutAuto
import Derived.LaidEql
namespace Go.Proofs.Ybulkdkyy
set_option linter.unusedVariables false
set_option linter.unusedSimpArgs false
open Go.RowKit

theorem mkChan (w : World) : (Instr.makeChan 25 (.int .i64 1)).run Yba.prog w = .ok (.chan (some w.heap.size)) (w.alloc (.chan 1 #[] false 0 0 false)) := by
  have h : (Yba.prog.info? 30).map (·.bytes) = some 0 := by kernel_rfl
  obtain ⟨i, hi, hb⟩ := Option.map_eq_some_iff.1 h
  simpa using Conc.run_makeChan (P := Yba.prog) (w := w) Yba.underlying25 hi .i64 1 (by omega) (by rw [hb]; omega)

theorem eqIn41 (d : Nat) (a : Addr) (w : World) : (Op.equalIn (d + 1) 41 (.pointer (some a)) (.pointer (some a))).run Yba.prog w = .ok true w := by
  obtain ⟨j, hj⟩ : ∃ j, Yba.prog.info? 61 = some j := by
    have h : (Yba.prog.info? 61).isSome = true := by kernel_rfl
    exact Option.isSome_iff_exists.1 h
  simp [Op.equalIn, run_underlying Yba.underlying41, typeInfo, sizeOf, run_sameAddr_same, hj]
theorem neq41 (a : Addr) (w : World) : (binOp .neq 41 (.pointer (some a)) (.pointer (some a))).run Yba.prog w = .ok (.bool false) w := by
  simp only [binOp]
  simp [Op.equal, Op.maxDepth, eqIn41 9999 a w]

theorem mem_take_next (P : List Nat) (j i : Nat) (hj : j < P.length) : decide (i ∈ P.take (j + 1)) = if i = P.getD j 0 then true else decide (i ∈ P.take j) := by
  have e : P.take (j + 1) = P.take j ++ [P.getD j 0] := by rw [getD_eq_getElem _ _ hj, List.take_append_getElem hj]
  rw [e]
  by_cases h : i = P.getD j 0
  · rw [if_pos h, decide_eq_true_iff, List.mem_append, List.mem_singleton]; exact .inr h
  · rw [if_neg h]; congr 1; simp only [List.mem_append, List.mem_singleton, h, or_false]

theorem mem_take_next2 (P q : List Nat) (j i : Nat) (hj : j < q.length) : decide (i ∈ P ++ q.take (j + 1)) = if i = q.getD j 0 then true else decide (i ∈ P ++ q.take j) := by
  have e : q.take (j + 1) = q.take j ++ [q.getD j 0] := by rw [getD_eq_getElem _ _ hj, List.take_append_getElem hj]
  rw [e]
  by_cases h : i = q.getD j 0
  · rw [if_pos h, decide_eq_true_iff, List.mem_append, List.mem_append, List.mem_singleton]; exact .inr (.inr h)
  · rw [if_neg h]; congr 1; simp only [List.mem_append, List.mem_singleton, h, or_false]

theorem srt_from (z : Nat → Int) (n j : Nat) (h : j < n) : ∃ x, (srt ((List.range n).map z)).getD j 0 = z x := by
  have hl : j < (srt ((List.range n).map z)).length := by rw [srt_length]; simpa using h
  have hm : (srt ((List.range n).map z))[j] ∈ (List.range n).map z := (srt_perm _).mem_iff.1 (List.getElem_mem hl)
  obtain ⟨x, _, e⟩ := List.mem_map.1 hm
  refine ⟨x, ?_⟩
  rw [e, List.getD, List.getElem?_eq_getElem hl]; rfl

theorem updD_updD (d : Nat → Int) (k : Nat) (x : Int) : updD (updD d k x) k (d k) = d := by
  funext j
  unfold updD
  by_cases h : j = k
  · simp [h]
  · simp [h]

def updS (sb : Nat → Nat) (k b : Nat) : Nat → Nat := fun j => if j = k then b else sb j
theorem updS_same (sb : Nat → Nat) (k b : Nat) : updS sb k b k = b := by simp [updS]
theorem updS_lt (sb : Nat → Nat) (k b j : Nat) (h : j < k) : updS sb k b j = sb j := by unfold updS; rw [if_neg (by omega)]

/-- A new session beside those that are there. -/
theorem HV.addSess {w : World} {v : Value} {sb : Nat → Nat} {d : Nat → Int} {k : Nat} {q : List Nat} (h : HV w v sb d k q) {b : Nat} (hs : Sess w b k 0 (-1)) (hne : ∀ j, j < k → sb j ≠ b) : HV w v (updS sb k b) (updD d k 0) (k + 1) q := by
  have hqk : ∀ i, i ∈ q → i < k := h.ids
  refine ⟨?_, fun j hj => ?_, fun i hi hn => ?_, fun i hi => Nat.lt_succ_of_lt (h.ids i hi), h.nodup, fun i j hi hj e => ?_⟩
  · have e : (q.map fun i => Value.pointer (some ⟨updS sb k b i, 0, none⟩)) = q.map fun i => .pointer (some ⟨sb i, 0, none⟩) := List.map_congr_left (fun i hi => by rw [updS_lt _ _ _ _ (hqk i hi)])
    rw [e]; exact h.own
  · have hl := hqk _ (getD_mem hj)
    rw [updS_lt _ _ _ _ hl]
    have e : updD d k 0 (q.getD j 0) = d (q.getD j 0) := by unfold updD; rw [if_neg (Nat.ne_of_lt hl)]
    rw [e]; exact h.inq j hj
  · by_cases e : i = k
    · subst e
      rw [updS_same]
      have e : updD d i 0 i = 0 := by simp [updD]
      rw [e]; exact hs
    · have hl : i < k := by omega
      rw [updS_lt _ _ _ _ hl]
      have e : updD d k 0 i = d i := by unfold updD; rw [if_neg e]
      rw [e]; exact h.out i hl hn
  · by_cases ei : i = k
    · by_cases ej : j = k
      · omega
      · subst ei
        rw [updS_same, updS_lt _ _ _ _ (by omega)] at e
        exact absurd e.symm (hne j (by omega))
    · by_cases ej : j = k
      · subst ej
        rw [updS_same, updS_lt _ _ _ _ (by omega)] at e
        exact absurd e (hne i (by omega))
      · rw [updS_lt _ _ _ _ (by omega), updS_lt _ _ _ _ (by omega)] at e
        exact h.inj i j (by omega) (by omega) e

/-- What holds at the head of the first loop. -/
structure L1 (w wr : World) (n k : Nat) (z : Nat → Int) (S pb c M : Nat) (v : Value) (sb : Nat → Nat) (q : List Nat) : Prop where
  hv : HV wr v sb z k q
  srv : Srv wr S 0 v c
  ch : ChanOk wr c
  heap : HeapOn (keyF z q) q.length
  perm : q.Perm (List.range k)
  ptrs : wr.rowIs pb 41 n (fun j => if j < k then .pointer (some ⟨sb j, 0, none⟩) else .pointer none)
  sbM : ∀ j, j < k → M ≤ sb j
  ownM : ∀ g, v.ownBlock = some g → M ≤ g
  below : Below w.heap.size w wr
  size : M ≤ wr.heap.size

/-- A session has been made and its pointer stored: what schedule is handed. -/
theorem L1.made {w wr w1 w3 : World} {n k : Nat} {z : Nat → Int} {S pb c M : Nat} {v : Value} {sb : Nat → Nat} {q : List Nat} (h : L1 w wr n k z S pb c M v sb q) (hSM : S < M) (hcM : c < M) (hpM : pb < M) (hpS : pb ≠ S) (hpc : pb ≠ c) {b : Nat}
    (hb : wr.heap.size ≤ b) (hs : Sess w1 b k 0 (-1)) (h1 : Below wr.heap.size wr w1) (h3 : Below (w1.setCell ⟨pb, k, none⟩ (.pointer (some ⟨b, 0, none⟩))).heap.size (w1.setCell ⟨pb, k, none⟩ (.pointer (some ⟨b, 0, none⟩))) w3) :
    HV w3 v (updS sb k b) (updD z k 0) (k + 1) q ∧ Srv w3 S 0 v c ∧ ChanOk w3 c ∧ w3.rowIs pb 41 n (fun j => if j < k + 1 then .pointer (some ⟨updS sb k b j, 0, none⟩) else .pointer none) ∧ Kp (fun x => x = pb) wr w3 := by
  have hk : Kp (fun x => x = pb) wr w3 := ((Kp.ofBelow (T := fun x => x = pb) h1).setCell (a := ⟨pb, k, none⟩) (.inl rfl) (.pointer (some ⟨b, 0, none⟩))).trans (Kp.ofBelow h3)
  have hk1 : Kp (fun x => x = pb) w1 w3 := ((Kp.refl (fun x => x = pb) w1).setCell (a := ⟨pb, k, none⟩) (.inl rfl) (.pointer (some ⟨b, 0, none⟩))).trans (Kp.ofBelow h3)
  have hsz := h.size
  have hs3 : Sess w3 b k 0 (-1) := hs.of_block (hk1.block _ hs.lt (by omega))
  have hv3 : HV w3 v sb z k q := h.hv.kp hk (fun g hg e => by have := h.ownM g hg; omega) (fun i hi e => by have := h.sbM i hi; omega)
  refine ⟨hv3.addSess hs3 (fun j hj e => by obtain ⟨x, hx⟩ := h.hv.any hj; have := hx.lt; omega), h.srv.of_block (hk.block _ h.srv.lt (Ne.symm hpS)), h.ch.of_block (hk.block _ h.ch.lt (Ne.symm hpc)), ?_, hk⟩
  have r1 : w1.rowIs pb 41 n (fun j => if j < k then .pointer (some ⟨sb j, 0, none⟩) else .pointer none) := h.ptrs.of_block (h1.block _ h.ptrs.lt)
  have r2 := r1.set k (.pointer (some ⟨b, 0, none⟩))
  have r3 : w3.rowIs pb 41 n _ := r2.of_block (h3.block _ r2.lt)
  refine r3.congr (fun j hj => ?_)
  by_cases e : j = k
  · subst e; simp [updS_same]
  · by_cases hl : j < k
    · simp [e, hl, updS_lt _ _ _ _ hl, Nat.lt_succ_of_lt hl]
    · have : ¬ j < k + 1 := by omega
      simp [e, hl, this]

theorem L1.step {w wr w3 w4 : World} {n k : Nat} {z : Nat → Int} {S pb c M : Nat} {v : Value} {sb : Nat → Nat} {q : List Nat} (h : L1 w wr n k z S pb c M v sb q) (hSM : S < M) (hcM : c < M) (hpM : pb < M) (hpS : pb ≠ S) (hpc : pb ≠ c) (hN : w.heap.size ≤ S ∧ w.heap.size ≤ c ∧ w.heap.size ≤ pb) (hNM : w.heap.size ≤ M) {b : Nat}
    (hb : wr.heap.size ≤ b) (hk3 : Kp (fun x => x = pb) wr w3) (hp3 : w3.rowIs pb 41 n (fun j => if j < k + 1 then .pointer (some ⟨updS sb k b j, 0, none⟩) else .pointer none))
    {g cap : Nat} {q' : List Nat} (hp : q'.Perm (q ++ [k])) (h4 : HW w4 g cap (updS sb k b) (updD (updD z k 0) k (z k)) (k + 1) q') (hS4 : Srv w4 S 0 (.slice (some ⟨g, 0, none⟩) q'.length cap) c) (hC4 : ChanOk w4 c) (hh4 : HeapOn (keyF (updD (updD z k 0) k (z k)) q') q'.length)
    (hk4 : Kp (fun x => Ts S v (updS sb k b) (k + 1) x ∨ x = c) w3 w4) (hloc : v.ownBlock = some g ∨ w3.heap.size ≤ g) :
    L1 w w4 n (k + 1) z S pb c M (.slice (some ⟨g, 0, none⟩) q'.length cap) (updS sb k b) q' := by
  rw [updD_updD] at h4 hh4
  have hsz := h.size
  have hsbM : ∀ j, j < k + 1 → M ≤ updS sb k b j := fun j hj => by
    by_cases e : j = k
    · subst e; rw [updS_same]; omega
    · rw [updS_lt _ _ _ _ (by omega)]; exact h.sbM j (by omega)
  have hnT : ¬ (Ts S v (updS sb k b) (k + 1) pb ∨ pb = c) := by
    rintro ((e | e | ⟨j, hj, e⟩) | e)
    · exact hpS e
    · have := h.ownM _ e; omega
    · have := hsbM j hj; omega
    · exact hpc e
  refine ⟨h4.hv, hS4, hC4, hh4, ?_, hp3.of_block (hk4.block _ hp3.lt hnT), hsbM, ?_, ?_, ?_⟩
  · refine hp.trans ?_
    rw [List.range_succ]
    exact h.perm.append_right _
  · intro g' hg'
    simp [Value.ownBlock] at hg'
    subst hg'
    rcases hloc with e | e
    · exact h.ownM _ e
    · have := hk3.size; omega
  · have b3 := hk3.below (B := w.heap.size) h.below.size (fun x e => by omega)
    have b4 := hk4.below (B := w.heap.size) (Nat.le_trans h.below.size hk3.size) (by
      rintro x ((e | e | ⟨j, hj, e⟩) | e)
      · omega
      · have := h.ownM _ e; omega
      · have := hsbM j hj; omega
      · omega)
    exact (h.below.trans b3).trans b4
  · exact Nat.le_trans h.size (Nat.le_trans hk3.size hk4.size)

theorem law_start (w : World) (n : Nat) (z : Nat → Int) : L1 w ((((w.alloc (.map #[] 0)).alloc (.chan 1 #[] false 0 0 false)).alloc (.cells #[.pointer none, .pointer none, .int .i64 0, .int .i64 0, .int .i64 0, .pointer none, .int .i32 0, .int .u32 0, .map (some w.heap.size), .slice none 0 0, .chan (some (w.heap.size + 1))] 40)).alloc (.cells (madeCells #[.pointer none] n) 41)) n 0 z (w.heap.size + 1 + 1) (w.heap.size + 1 + 1 + 1) (w.heap.size + 1) (w.heap.size + 4) (.slice none 0 0) (fun _ => 0) [] := by
  have hch : (((w.alloc (.map #[] 0)).alloc (.chan 1 #[] false 0 0 false))).heap[w.heap.size + 1]? = some (.chan 1 #[] false 0 0 false) := by
    have := Deep.blk_alloc_new (w.alloc (.map #[] 0)) (.chan 1 #[] false 0 0 false)
    rw [World.size_alloc] at this; exact this
  refine ⟨⟨World.ownsRow_nil _ _ _ _, by simp, by simp, by simp, by simp, by simp⟩, ?_, ?_, fun c c0 cm => by simp at cm, by simp, ?_, by simp, by simp [Value.ownBlock], ?_, by simp⟩
  · have r := World.rowIs_alloc ((w.alloc (.map #[] 0)).alloc (.chan 1 #[] false 0 0 false)) #[.pointer none, .pointer none, .int .i64 0, .int .i64 0, .int .i64 0, .pointer none, .int .i32 0, .int .u32 0, .map (some w.heap.size), .slice none 0 0, .chan (some (w.heap.size + 1))] 40
      (fun j => (#[Value.pointer none, .pointer none, .int .i64 0, .int .i64 0, .int .i64 0, .pointer none, .int .i32 0, .int .u32 0, .map (some w.heap.size), .slice none 0 0, .chan (some (w.heap.size + 1))] : Array Value).getD j undef) (fun j hj => by
        simp only [Array.getD, hj, dif_pos]
        rw [Array.getElem?_eq_getElem hj]; rfl)
    rw [World.size_alloc, World.size_alloc] at r
    exact ⟨_, r.alloc _, rfl, rfl, rfl, rfl⟩
  · refine ⟨#[], 0, 0, ?_⟩
    rw [RowKit.Below.heap_alloc _ _ _ (by simp), RowKit.Below.heap_alloc _ _ _ (by simp)]; exact hch
  · have r := World.rowIs_made (((w.alloc (.map #[] 0)).alloc (.chan 1 #[] false 0 0 false)).alloc (.cells #[.pointer none, .pointer none, .int .i64 0, .int .i64 0, .int .i64 0, .pointer none, .int .i32 0, .int .u32 0, .map (some w.heap.size), .slice none 0 0, .chan (some (w.heap.size + 1))] 40)) (.pointer none) n 41
    rw [World.size_alloc, World.size_alloc, World.size_alloc] at r
    exact r.congr (fun j _ => by simp)
  · exact ((((Below.refl _ w).alloc (Nat.le_refl _) _).alloc (by simp) _).alloc (by simp; omega) _).alloc (by simp; omega) _

theorem L1.keep {w wr w' : World} {n k : Nat} {z : Nat → Int} {S pb c M : Nat} {v : Value} {sb : Nat → Nat} {q : List Nat} (h : L1 w wr n k z S pb c M v sb q) (hb : Below wr.heap.size wr w') : L1 w w' n k z S pb c M v sb q :=
  ⟨h.hv.below hb, h.srv.of_block (hb.block _ h.srv.lt), h.ch.of_block (hb.block _ h.ch.lt), h.heap, h.perm, h.ptrs.of_block (hb.block _ h.ptrs.lt), h.sbM, h.ownM, h.below.trans (hb.mono h.below.size), Nat.le_trans h.size hb.size⟩

/-- What holds behind due, to the end. -/
structure LF (w wr : World) (n : Nat) (z : Nat → Int) (S pb c gs : Nat) (sv : Nat → Int) (sb : Nat → Nat) (g cap : Nat) (ad : Option Addr) (cd : Nat) (P q : List Nat) (now : Int) : Prop where
  hw : HW wr g cap sb z n q
  srv : Srv wr S 0 (.slice (some ⟨g, 0, none⟩) q.length cap) c
  ptrs : wr.rowIs pb 41 n (fun j => if j < n then .pointer (some ⟨sb j, 0, none⟩) else .pointer none)
  due : wr.ownsRow 0 41 1 (.slice ad P.length cd) P.length (P.map fun i => .pointer (some ⟨sb i, 0, none⟩))
  sorted : ∀ j, j < n → wr.cell? ⟨gs, j, none⟩ = some (.int .i64 (sv j))
  gslt : gs < wr.heap.size
  perm : (P ++ q).Perm (List.range n)
  low : ∀ a, a ∈ P → z a ≤ now
  high : ∀ b, b ∈ q → now < z b
  same : ∀ j, j < P.length → sv j = z (P.getD j 0)
  below : Below w.heap.size w wr

theorem LF.keep {w wr w' : World} {n : Nat} {z : Nat → Int} {S pb c gs : Nat} {sv : Nat → Int} {sb : Nat → Nat} {g cap : Nat} {ad : Option Addr} {cd : Nat} {P q : List Nat} {now : Int} (h : LF w wr n z S pb c gs sv sb g cap ad cd P q now) (hb : Below wr.heap.size wr w') : LF w w' n z S pb c gs sv sb g cap ad cd P q now :=
  ⟨h.hw.below hb, h.srv.of_block (hb.block _ h.srv.lt), h.ptrs.of_block (hb.block _ h.ptrs.lt), ownsRow_kp (T := fun _ => False) h.due (Kp.ofBelow hb) (fun _ _ h => h), fun j hj => by rw [hb.cell (show gs < _ from h.gslt)]; exact h.sorted j hj, Nat.lt_of_lt_of_le h.gslt hb.size, h.perm, h.low, h.high, h.same, h.below.trans (hb.mono h.below.size)⟩

theorem own_form {w : World} {base n : Nat} {v : Value} {xs : List Value} (h : w.ownsRow base 41 1 v n xs) : ∃ a c, v = .slice a n c := by
  rcases h.2 with ⟨hv, h0⟩ | ⟨g, cap, cur, hv, _⟩
  · exact ⟨none, 0, by rw [hv, h0]⟩
  · exact ⟨_, _, hv⟩

/-- From what due hands back to what the law then reads. -/
theorem LF.mk' {w w3 w4 w5 : World} {n : Nat} {z : Nat → Int} {S pb c M gs : Nat} {sv : Nat → Int} {sb : Nat → Nat} {g cap : Nat} {q : List Nat} {ad : Option Addr} {cd : Nat} {P q' : List Nat} {now : Int}
    (L : L1 w w3 n n z S pb c M (.slice (some ⟨g, 0, none⟩) q.length cap) sb q) (hb4 : Below w3.heap.size w3 w4) (D : DuePost w4 w5 S c g cap sb z n q now 0 (.slice ad P.length cd) w4.heap.size P q') (hhigh : ∀ b, b ∈ q' → now < z b)
    (hgs : gs < w3.heap.size) (hgsM : M ≤ gs) (hcs : ∀ j, j < n → w3.cell? ⟨gs, j, none⟩ = some (.int .i64 (sv j))) (hsv : sv = fun j => (srt ((List.range n).map z)).getD j 0) (hSM : S < M) (hpM : pb < M) (hpS : pb ≠ S) (hN : w.heap.size ≤ S) (hNM : w.heap.size ≤ M)
    (hgsT : ∀ i, i < n → sb i ≠ gs) (hgsg : g ≠ gs) :
    LF w w5 n z S pb c gs sv sb g cap ad cd P q' now ∧ srt ((List.range n).map z) = P.map z ++ srt (q'.map z) := by
  have L4 := L.keep hb4
  have hperm : (P ++ q').Perm (List.range n) := D.perm.trans L.perm
  have hsp := srt_split ((List.range n).map z) z n rfl P q' now hperm D.asc D.low hhigh
  have hpT : ¬ Ts S (.slice (some ⟨g, 0, none⟩) q.length cap) sb n pb := by
    rintro (e | e | ⟨j, hj, e⟩)
    · exact hpS e
    · have := L.ownM _ e; omega
    · have := L.sbM j hj; omega
  have hgT : ¬ Ts S (.slice (some ⟨g, 0, none⟩) q.length cap) sb n gs := by
    rintro (e | e | ⟨j, hj, e⟩)
    · omega
    · simp [Value.ownBlock] at e; exact hgsg e
    · exact hgsT j hj e.symm
  have hgs4 : gs < w4.heap.size := Nat.lt_of_lt_of_le hgs hb4.size
  refine ⟨⟨D.hw, D.srv, L4.ptrs.of_block (D.kp.block _ L4.ptrs.lt hpT), ?_, fun j hj => ?_, Nat.lt_of_lt_of_le hgs4 D.kp.size, hperm, D.low, hhigh, fun j hj => ?_, ?_⟩, hsp⟩
  · refine ⟨D.own.1, ?_⟩
    rcases D.own.2 with h0 | ⟨g', cap', cur, hv, hb0, r⟩
    · exact .inl h0
    · exact .inr ⟨g', cap', cur, hv, Nat.zero_le _, r⟩
  · rw [World.cell?_of_block (w := w4) (D.kp.block _ hgs4 hgT), hb4.cell (show gs < w3.heap.size from hgs)]; exact hcs j hj
  · rw [hsv]; exact srt_low hsp hj
  · exact L4.below.trans (D.kp.below L4.below.size (by
      rintro x (e | e | ⟨j, hj, e⟩)
      · omega
      · have := L.ownM _ e; omega
      · have := L.sbM j hj; omega))

set_option maxRecDepth 10000 in
set_option maxHeartbeats 4000000 in
theorem law_pos (b off n cap : Nat) (z : Nat → Int) (now : Int) (w : World) (hn0 : 0 < n) (hn : n ≤ 65536)
    (hc : ∀ j, j < n → w.cell? ⟨b, off + j, none⟩ = some (.int .i64 (z j))) (hz : ∀ j, -9223372036854775808 ≤ z j ∧ z j ≤ 9223372036854775807) (hnow : -9223372036854775808 ≤ now ∧ now ≤ 9223372036854775807) :
    Calls Yba.prog 3 #[.slice (some ⟨b, off, none⟩) n cap, .int .i64 now] w fun e w' => e = .returned (.bool true) ∧ Below w.heap.size w w' := by
  have hmm := @run_makeMap Yba.prog
  have hmc := mkChan
  have hmk := run_make_row' (P := Yba.prog) 37 41 (.pointer none) 8 Yba.underlying37 Yba.info41 rfl .i64 .i64 n (by omega) (by omega)
  have hmb := run_make_row' (P := Yba.prog) 59 4 (.bool false) 1 Yba.underlying59 (by kernel_rfl) rfl .i64 .i64 n (by omega) (by omega)
  go_enter Yba.func3, Yba.ntmps3
  go_wp2_with fail
  have hL0 : L1 w ((((w.alloc (.map #[] 0)).alloc (.chan 1 #[] false 0 0 false)).alloc (.cells #[.pointer none, .pointer none, .int .i64 0, .int .i64 0, .int .i64 0, .pointer none, .int .i32 0, .int .u32 0, .map (some w.heap.size), .slice none 0 0, .chan (some (w.heap.size + 1))] 40)).alloc (.cells (madeCells #[.pointer none] n) 41)) n 0 z (w.heap.size + 1 + 1) (w.heap.size + 1 + 1 + 1) (w.heap.size + 1) (w.heap.size + 4) (.slice none 0 0) (fun _ => 0) [] := law_start w n z
  go_loopw [8] (fun i wr => ∃ k v sb q, i = .int .i64 (k : Nat) ∧ k ≤ n ∧ L1 w wr n k z (w.heap.size + 1 + 1) (w.heap.size + 1 + 1 + 1) (w.heap.size + 1) (w.heap.size + 4) v sb q) (fun i _ => n - (intOf i).toNat)
  case atStart => exact ⟨0, _, _, _, rfl, Nat.zero_le _, hL0⟩
  case round =>
    obtain ⟨k, v, sb, q, rfl, hk, L⟩ := hrel
    by_cases hlt : k < n
    · have hck : wr.cell? ⟨b, off + k, none⟩ = some (.int .i64 (z k)) := by rw [L.below.cell (show b < w.heap.size from block_lt_of_cell (hc k hlt))]; exact hc k hlt
      clear hL0 hmm hmc hmk hmb
      have hnk : k ∉ q := fun hm => by have := L.hv.ids k hm; omega
      have hql : q.length = k := by rw [L.perm.length_eq]; simp
      have hq1 : q.length + 1 ≤ 65536 := by omega
      have hpf : ∀ j, wr.frozen? ⟨w.heap.size + 1 + 1 + 1, j, none⟩ = false := fun j => L.ptrs.frozen j
      have hpc := L.ptrs.cell hlt
      have HQ : Hid (q.length = k) := hql
      clear hql
      go_wp2_with fail
      refine (new_any k wr).mono ?_
      rintro e w1 ⟨bs, rfl, hbs, hs1, hb1⟩
      have hpl : w.heap.size + 1 + 1 + 1 < wr.heap.size := L.ptrs.lt
      have hpc1 : w1.cell? ⟨w.heap.size + 1 + 1 + 1, k, none⟩ = some (.pointer none) := by rw [hb1.cell hpl, hpc]; simp
      have hpf1 : w1.frozen? ⟨w.heap.size + 1 + 1 + 1, k, none⟩ = false := by rw [hb1.frozen hpl]; exact hpf k
      have hbl : b < w.heap.size := block_lt_of_cell (hc k hlt)
      have hck1 : w1.cell? ⟨b, off + k, none⟩ = some (.int .i64 (z k)) := by rw [hb1.cell (show b < wr.heap.size from by omega)]; exact hck
      have hne : b ≠ w.heap.size + 1 + 1 + 1 := by omega
      clear hpc hpf hck
      go_wp2_with fail
      refine (at_any (z k) _ (hz k)).mono ?_
      rintro e w3 ⟨rfl, hb3⟩
      obtain ⟨hv3, hS3, hC3, hp3, hk3⟩ := L.made (by omega) (by omega) (by omega) (by omega) (by omega) hbs hs1 hb1 hb3
      have hh3 : HeapOn (keyF (updD z k 0) q) q.length := HeapOn_congr L.heap (fun p hp => keyF_upd 0 hnk p hp)
      go_wp2_with fail
      have hsc := sched_any hv3 (w.heap.size + 1 + 1) (w.heap.size + 1) k (z k) (hz k) hS3 hC3 (Nat.lt_succ_self k) hnk hq1 hh3
      rw [updS_same] at hsc
      refine hsc.mono ?_
      rintro e w4 ⟨rfl, g, cap4, q4, hp4, h4, hS4, hC4, hh4, hk4, hloc4⟩
      clear hsc
      have L4 := L.step (by omega) (by omega) (by omega) (by omega) (by omega) (by omega) (by omega) hbs hk3 hp3 hp4 h4 hS4 hC4 hh4 hk4 hloc4
      clear hv3 hS3 hC3 hp3 hk3 hh3 hp4 h4 hS4 hC4 hh4 hk4 hloc4
      go_wp2_with fail
      go_roundw
      case rel => exact ⟨k + 1, _, _, _, by go_num, by omega, L4⟩
      case measure => simp [intOf]; omega
    · have hkn : n = k := by omega
      subst hkn
      clear hL0 hmm hmc hmk hlt hk
      have hq0 : q ≠ [] := fun e => by have := L.perm.length_eq; rw [e] at this; simp at this; omega
      have hcw : ∀ j, j < n → wr.cell? ⟨b, off + j, none⟩ = some (.int .i64 (((List.range n).map z).getD j 0)) := fun j hj => by
        rw [L.below.cell (show b < w.heap.size from block_lt_of_cell (hc j hj)), hc j hj]
        simp [List.getD, hj]
      have hzl : ((List.range n).map z).length = n := by simp
      go_wp2_with fail
      refine (clone_any b off n cap ((List.range n).map z) wr hzl hn0 hn hcw).mono ?_
      rintro e w2 ⟨gs, capS, rfl, hgs, hgs2, hcs, hfs, hb2⟩
      clear hcw
      go_wp2_with fail
      have hso := sort_any gs capS ((List.range n).map z) w2 hgs2 (by rw [hzl]; exact hn) (by rw [hzl]; exact hcs) hfs
      rw [hzl] at hso
      refine hso.mono ?_
      rintro e w3 ⟨rfl, hcs3, hks⟩
      clear hso hcs hfs
      have L3 := L.keep (w' := w3) (by
        have hb3 : Below wr.heap.size w2 w3 := ⟨hks.os, hks.tape, hks.output, hks.size, fun x hx => hks.block x (Nat.lt_of_lt_of_le hx hb2.size) (by omega)⟩
        exact hb2.trans hb3)
      have hgs3 : gs < w3.heap.size := Nat.lt_of_lt_of_le hgs2 hks.size
      have hgsM : w.heap.size + 4 ≤ gs := Nat.le_trans L.size hgs
      have hgsT : ∀ i, i < n → sb i ≠ gs := fun i hi e => by obtain ⟨x, hx⟩ := L.hv.any hi; have := hx.lt; omega
      have hgsV : ∀ x, v.ownBlock = some x → x ≠ gs := fun x hx e => by have := L.hv.own_lt hx; omega
      clear hb2 hks L
      obtain ⟨sv, hsv⟩ : ∃ sv : Nat → Int, sv = fun j => (srt ((List.range n).map z)).getD j 0 := ⟨_, rfl⟩
      have hcs4 : ∀ j, j < n → w3.cell? ⟨gs, j, none⟩ = some (.int .i64 (sv j)) := fun j hj => by rw [hcs3 j hj, hsv]
      have HSV : Hid (sv = fun j => (srt ((List.range n).map z)).getD j 0) := hsv
      clear hsv hcs3
      go_upto_block 2 with fail
      go_cut [11] (fun kk wc => wc = w3 ∧ ∃ j : Nat, kk = .int .i64 j ∧ j ≤ n ∧ Hid (∀ i, i < j → sv i ≤ now) ∧ Hid (j < n → now < sv j))
      case first =>
        go_wp2_with fail
        go_loop [11] (fun kk => ∃ j : Nat, kk = .int .i64 j ∧ j ≤ n ∧ Hid (∀ i, i < j → sv i ≤ now)) (fun kk => n - (intOf kk).toNat)
        case atStart => exact ⟨0, rfl, Nat.zero_le _, fun i hi => by omega⟩
        case round =>
          obtain ⟨j, rfl, hj, hle⟩ := hrel
          by_cases hjn : j < n
          · have hcj := hcs4 j hjn
            by_cases hsj : sv j ≤ now
            · go_wp2_with fail
              go_round
              case rel => exact ⟨j + 1, by go_num, by omega, fun i hi => by
                by_cases e : i = j
                · rw [e]; exact hsj
                · exact hle.out i (by omega)⟩
              case measure => simp [intOf]; omega
            · have hfin : Hid (j < n → now < sv j) := fun _ => by omega
              go_wp2_with fail
              go_meet
              case rel => exact ⟨rfl, j, rfl, hj, hle, hfin⟩
          · have hfin : Hid (j < n → now < sv j) := fun h => absurd h hjn
            go_wp2_with fail
            go_meet
            case rel => exact ⟨rfl, j, rfl, hj, hle, hfin⟩
      case rest =>
        obtain ⟨rfl, kk, rfl, hkk, hle, hfin⟩ := hcut
        obtain ⟨g, capq, hvq, hHW⟩ := L3.hv.hw hq0
        subst hvq
        have hgsg : g ≠ gs := fun e => hgsV g rfl e
        have hql : q.length ≤ 65536 := by have := L3.perm.length_eq; simp at this; omega
        go_wp2_with fail
        refine (at_any now _ hnow).mono ?_
        rintro e w4 ⟨rfl, hb4⟩
        go_wp2_with fail
        have L4 := L3.keep hb4
        refine (due_any (hHW.below hb4) (w.heap.size + 1 + 1) (w.heap.size + 1) now hnow L4.srv hql L4.heap).mono ?_
        rintro e w5 ⟨dv, P, q', nx, rfl, D, hhigh, hnx0, hnx1⟩
        obtain ⟨ad, cd, hdv⟩ := own_form D.own
        subst hdv
        obtain ⟨F5, hsp⟩ := LF.mk' L3 hb4 D hhigh hgs3 hgsM hcs4 HSV.out (by omega) (by omega) (by omega) (by omega) (by omega) hgsT hgsg
        have hPq : P.length + q'.length = n := by have := F5.perm.length_eq; simpa using this
        have hkP : kk = P.length := count_eq hsp F5.low F5.high kk (by omega) (fun i hi => by have := hle.out i hi; rw [HSV.out] at this; exact this) (fun h => by have := hfin.out (by omega); rw [HSV.out] at this; exact this)
        have hnxe : q' ≠ [] → nx = sv P.length := fun hne => by
          rw [hnx1 hne, HSV.out]
          refine (srt_next hsp (List.length_pos_iff.2 hne) (fun x hx => ?_)).symm
          obtain ⟨j, hj, e⟩ := List.getElem_of_mem hx
          have := heap_min D.heap j hj
          unfold keyF at this
          rw [getD_eq_getElem _ _ hj, e] at this; exact this
        have HNX : Hid (P.length + q'.length = n ∧ (q' = [] → nx = 0) ∧ (q' ≠ [] → nx = sv P.length)) := ⟨hPq, hnx0, hnxe⟩
        have HSP : Hid (srt ((List.range n).map z) = P.map z ++ srt (q'.map z)) := hsp
        subst hkP
        clear hsp hPq hnx0 hnx1 hnxe hle hfin L3 L4 D hHW hb4 hcs4 hhigh
        go_wp2_with fail
        obtain ⟨w6, hw6⟩ : ∃ w6, w6 = w5.alloc (.cells #[.int .u64 (nsOf nx), .int .i64 (scOf nx), .pointer none] 49) := ⟨_, rfl⟩
        rw [← hw6]
        have hb6 : Below w5.heap.size w5 w6 := by rw [hw6]; exact (Below.refl _ _).alloc (Nat.le_refl _) _
        have F6 := F5.keep hb6
        have hs6 : w6.heap.size = w5.heap.size + 1 := by rw [hw6]; simp
        have hnb : w6.heap[w5.heap.size]? = some (.cells #[.int .u64 (nsOf nx), .int .i64 (scOf nx), .pointer none] 49) := by rw [hw6]; exact Deep.blk_alloc_new _ _
        have hr6 : (w6.alloc (.cells (madeCells #[.bool false] n) 4)).rowIs (w5.heap.size + 1) 4 n (fun _ => .bool false) := by rw [← hs6]; exact World.rowIs_made _ _ _ _
        have HNB : Hid (w6.heap[w5.heap.size]? = some (.cells #[.int .u64 (nsOf nx), .int .i64 (scOf nx), .pointer none] 49) ∧ w6.heap.size = w5.heap.size + 1) := ⟨hnb, hs6⟩
        clear hw6 hnb hs6 F5 hb6
        go_loopw [15] (fun jv wr => ∃ j : Nat, jv = .int .i64 j ∧ j ≤ P.length ∧ Below w6.heap.size w6 wr ∧ wr.rowIs (w5.heap.size + 1) 4 n (fun i => .bool (decide (i ∈ P.take j)))) (fun jv _ => P.length - (intOf jv).toNat)
        case atStart => exact ⟨0, rfl, Nat.zero_le _, (Below.refl _ _).alloc (Nat.le_refl _) _, hr6.congr (fun i _ => by simp)⟩
        case round =>
          obtain ⟨j, rfl, hj, hbr, hrow⟩ := hrel
          have F := F6.keep hbr
          by_cases hjP : j < P.length
          · obtain ⟨id, hid⟩ : ∃ id, id = P.getD j 0 := ⟨_, rfl⟩
            have hidP : id ∈ P := by rw [hid]; exact getD_mem hjP
            have hidn : id < n := List.mem_range.1 (F.perm.mem_iff.1 (List.mem_append.2 (.inl hidP)))
            have hnd : (P ++ q').Nodup := F.perm.nodup_iff.2 List.nodup_range
            have hidq : id ∉ q' := fun hm => (List.nodup_append.1 hnd).2.2 id hidP id hm rfl
            have hsess := F.hw.out id hidn hidq
            have hseen : decide (id ∈ P.take j) = false := by
              rw [decide_eq_false_iff_not]
              intro hm
              obtain ⟨i, hi, e⟩ := List.getElem_of_mem hm
              simp at hi
              rw [List.getElem_take, hid, getD_eq_getElem _ _ hjP] at e
              have := nodup_inj (List.nodup_append.1 hnd).1 (by omega) hjP e
              omega
            obtain ⟨gd, had⟩ : ∃ gd, ad = some ⟨gd, 0, none⟩ := by
              rcases F.due.2 with ⟨hv, h0⟩ | ⟨g', cap', cur, hv, _⟩
              · omega
              · simp only [Value.slice.injEq] at hv; exact ⟨g', hv.1⟩
            have hcd : wr.cell? ⟨gd, j, none⟩ = some (.pointer (some ⟨sb id, 0, none⟩)) := by
              have := F.due.cells (g := gd) (by rw [had]; rfl) j (.pointer (some ⟨sb id, 0, none⟩)) (by rw [List.getElem?_map, List.getElem?_eq_getElem hjP, hid, getD_eq_getElem _ _ hjP]; rfl)
              rw [add_eq, Nat.zero_add] at this; exact this
            have hsame : (z id != sv j) = false := by rw [F.same j hjP, ← hid]; simp
            have hcp : wr.cell? ⟨w.heap.size + 1 + 1 + 1, id, none⟩ = some (.pointer (some ⟨sb id, 0, none⟩)) := by rw [F.ptrs.cell hidn]; simp [hidn]
            have hcr : wr.cell? ⟨w5.heap.size + 1, id, none⟩ = some (.bool false) := by rw [hrow.cell hidn, hseen]
            have hfr := hrow.frozen id
            have hgr := hsess.granted
            have HID : Hid (id = P.getD j 0) := hid
            have hjb : (j : Int) < (P.length : Int) := by omega
            have hib : (id : Int) < (n : Int) := by omega
            subst had
            clear hid
            have hneq := neq41
            go_wp2_with fail
            obtain ⟨w7, hw7⟩ : ∃ w7, w7 = wr.setCell ⟨w5.heap.size + 1, id, none⟩ (.bool true) := ⟨_, rfl⟩
            rw [← hw7]
            have hb7 : Below w6.heap.size w6 w7 := by rw [hw7]; exact hbr.setCell (by simp [HNB.out.2]) _
            have hrow7 : w7.rowIs (w5.heap.size + 1) 4 n (fun i => .bool (decide (i ∈ P.take (j + 1)))) := by
              rw [hw7]
              refine (hrow.set id (.bool true)).congr (fun i hi => ?_)
              rw [mem_take_next P j i hjP, ← HID.out]
              by_cases e : i = id
              · simp [e]
              · simp [e]
            clear hneq hcd hcp hcr hfr hgr hsess hw7 hrow hseen F
            have F7 := F6.keep hb7
            have hs7 := F7.hw.out id hidn hidq
            have hcb : w7.cell? ⟨b, off + id, none⟩ = some (.int .i64 (z id)) := by rw [F7.below.cell (show b < w.heap.size from block_lt_of_cell (hc id hidn))]; exact hc id hidn
            have k1 := fun d os => cell_regrown hcb d os
            have k2 := fun d os => cell_regrown (F7.sorted j (by omega)) d os
            have hjn : (j : Int) < (n : Int) := by omega
            refine wp_region_quiet_below (by kernel_rfl) (by kernel_rfl) ?_
            repeat (quiet_step (fail))
            refine wpQuiet_nil ?_
            intro w8 hw'
            obtain ⟨⟨dq, osq⟩, hw8⟩ := hw'
            have hb8 : Below w7.heap.size w7 w8 := by rw [hw8]; exact below_regrown w7 dq osq
            clear k1 k2 hcb hw8
            have hs8 := hs7.of_block (hb8.block _ hs7.lt)
            have F8 := F7.keep hb8
            have hcb8 : w8.cell? ⟨b, off + id, none⟩ = some (.int .i64 (z id)) := by rw [F8.below.cell (show b < w.heap.size from block_lt_of_cell (hc id hidn))]; exact hc id hidn
            have k1 := fun d os => cell_regrown hcb8 d os
            have k2 := fun d os => cell_regrown hs8.dl0 d os
            have k3 := fun d os => cell_regrown hs8.dl1 d os
            have k4 := fun d os => cell_regrown hs8.dl2 d os
            have cA := fun d os => Calls.regrown_of (at_any (z id) (Go.Sort.grow (redrawn w8 d) os) (hz id))
            have cE := fun d os => Calls.regrown_of (equal_low (nsOf (z id)) (scOf (z id)) (nsOf (z id)) (scOf (z id)) (Go.Sort.grow (redrawn w8 d) os) (nsOf_lo _) (nsOf_hi _) (nsOf_lo _) (nsOf_hi _) true (by show Hid (true = _); exact (by simp : true = decide (scOf (z id) = scOf (z id) ∧ nsOf (z id) = nsOf (z id)))))
            go_wp2_with fail
            refine wp_region_quiet_below (by kernel_rfl) (by kernel_rfl) ?_
            repeat (first | quiet_step (exact cA _ _) | quiet_step (exact cE _ _))
            refine wpQuiet_nil ?_
            intro w9 hw'
            obtain ⟨⟨dq9, osq9⟩, hw9⟩ := hw'
            have hb9 : Below w8.heap.size w8 w9 := by rw [hw9]; exact below_regrown w8 dq9 osq9
            clear k1 k2 k3 k4 cA cE hcb8 hw9
            have hs9 := hs8.of_block (hb9.block _ hs8.lt)
            have hrow9 := (hrow7.of_block (hb8.block _ hrow7.lt)).of_block (hb9.block _ (hrow7.of_block (hb8.block _ hrow7.lt)).lt)
            have hci := hs9.index
            go_wp2_with fail
            go_roundw
            case rel => exact ⟨j + 1, by go_num, by omega, (hb7.trans (hb8.mono hb7.size)).trans (hb9.mono (Nat.le_trans hb7.size hb8.size)), hrow9⟩
            case measure => simp [intOf]; omega
          · have hjP' : j = P.length := by omega
            subst hjP'
            clear hjP hj
            rw [List.take_length] at hrow
            have hce := F.srv.exp
            have hsub : (n : Int) - (P.length : Int) = (q'.length : Int) := by have := HNX.out.1; omega
            go_wp2_with fail
            clear hce hsub F
            go_loopw [18] (fun iv wr2 => ∃ i : Nat, iv = .int .i64 i ∧ i ≤ q'.length ∧ Below w6.heap.size w6 wr2 ∧ wr2.rowIs (w5.heap.size + 1) 4 n (fun x => .bool (decide (x ∈ P ++ q'.take i)))) (fun iv _ => q'.length - (intOf iv).toNat)
            case atStart => exact ⟨0, rfl, Nat.zero_le _, hbr, hrow.congr (fun i _ => by simp)⟩
            case round =>
              obtain ⟨i, rfl, hi, hbr2, hrow2⟩ := hrel
              have F := F6.keep hbr2
              have hce := F.srv.exp
              by_cases hiq : i < q'.length
              · obtain ⟨id, hid⟩ : ∃ id, id = q'.getD i 0 := ⟨_, rfl⟩
                have hidq : id ∈ q' := by rw [hid]; exact getD_mem hiq
                have hidn : id < n := List.mem_range.1 (F.perm.mem_iff.1 (List.mem_append.2 (.inr hidq)))
                have hnd : (P ++ q').Nodup := F.perm.nodup_iff.2 List.nodup_range
                have hidP : id ∉ P := fun hm => (List.nodup_append.1 hnd).2.2 id hm id hidq rfl
                have hsess := F.hw.inq i hiq
                rw [← hid] at hsess
                have hseen : decide (id ∈ P ++ q'.take i) = false := by
                  rw [decide_eq_false_iff_not]
                  intro hm
                  rcases List.mem_append.1 hm with hm | hm
                  · exact hidP hm
                  obtain ⟨i', hi', e⟩ := List.getElem_of_mem hm
                  simp at hi'
                  rw [List.getElem_take, hid, getD_eq_getElem _ _ hiq] at e
                  have := nodup_inj (List.nodup_append.1 hnd).2.1 (by omega) hiq e
                  omega
                have hcd := F.hw.cell hiq
                rw [← hid] at hcd
                have hcp : wr.cell? ⟨w.heap.size + 1 + 1 + 1, id, none⟩ = some (.pointer (some ⟨sb id, 0, none⟩)) := by rw [F.ptrs.cell hidn]; simp [hidn]
                have hcr : wr.cell? ⟨w5.heap.size + 1, id, none⟩ = some (.bool false) := by rw [hrow2.cell hidn, hseen]
                have hfr := hrow2.frozen id
                have hgr := hsess.granted
                have HID : Hid (id = q'.getD i 0) := hid
                have hjb : (i : Int) < (q'.length : Int) := by omega
                have hib : (id : Int) < (n : Int) := by omega
                clear hid
                have hneq := neq41
                have hci := hsess.index
                have hcb0 : wr.cell? ⟨b, off + id, none⟩ = some (.int .i64 (z id)) := by rw [F.below.cell (show b < w.heap.size from block_lt_of_cell (hc id hidn))]; exact hc id hidn
                have hne1 : sb id ≠ w5.heap.size + 1 := by
                  obtain ⟨x, hx⟩ := F6.hw.any hidn
                  have := hx.lt; have := HNB.out.2; omega
                have hne2 : b ≠ w5.heap.size + 1 := by
                  have := block_lt_of_cell (hc id hidn)
                  have h6 := F6.below.size; have := HNB.out.2
                  simp at *; omega
                have hgt : ¬ z id ≤ now := by have := F.high id hidq; omega
                have hqn : q'.length ≤ n := by have := HNX.out.1; omega
                go_wp2_with fail
                obtain ⟨w8, hw8⟩ : ∃ w8, w8 = wr.setCell ⟨w5.heap.size + 1, id, none⟩ (.bool true) := ⟨_, rfl⟩
                rw [← hw8]
                have hb8 : Below w6.heap.size w6 w8 := by rw [hw8]; exact hbr2.setCell (by simp [HNB.out.2]) _
                have hrow8 : w8.rowIs (w5.heap.size + 1) 4 n (fun x => .bool (decide (x ∈ P ++ q'.take (i + 1)))) := by
                  rw [hw8]
                  refine (hrow2.set id (.bool true)).congr (fun x _ => ?_)
                  rw [mem_take_next2 P q' i x hiq, ← HID.out]
                  by_cases e : x = id
                  · simp [e]
                  · simp [e]
                clear hneq hcd hcp hcr hfr hgr hsess hw8 hrow2 hseen F hce hci hcb0
                have F8 := F6.keep hb8
                have hs8 := F8.hw.inq i hiq
                rw [← HID.out] at hs8
                have hcb8 : w8.cell? ⟨b, off + id, none⟩ = some (.int .i64 (z id)) := by rw [F8.below.cell (show b < w.heap.size from block_lt_of_cell (hc id hidn))]; exact hc id hidn
                have k1 := fun d os => cell_regrown hcb8 d os
                have k2 := fun d os => cell_regrown hs8.dl0 d os
                have k3 := fun d os => cell_regrown hs8.dl1 d os
                have k4 := fun d os => cell_regrown hs8.dl2 d os
                have cA := fun d os => Calls.regrown_of (at_any (z id) (Go.Sort.grow (redrawn w8 d) os) (hz id))
                have cE := fun d os => Calls.regrown_of (equal_low (nsOf (z id)) (scOf (z id)) (nsOf (z id)) (scOf (z id)) (Go.Sort.grow (redrawn w8 d) os) (nsOf_lo _) (nsOf_hi _) (nsOf_lo _) (nsOf_hi _) true (by show Hid (true = _); exact (by simp : true = decide (scOf (z id) = scOf (z id) ∧ nsOf (z id) = nsOf (z id)))))
                refine wp_region_quiet_below (by kernel_rfl) (by kernel_rfl) ?_
                repeat (first | quiet_step (exact cA _ _) | quiet_step (exact cE _ _))
                refine wpQuiet_nil ?_
                intro w9 hw'
                obtain ⟨⟨dq9, osq9⟩, hw9⟩ := hw'
                have hb9 : Below w8.heap.size w8 w9 := by rw [hw9]; exact below_regrown w8 dq9 osq9
                clear k1 k2 k3 k4 cA cE hcb8 hw9
                have hrow9 := hrow8.of_block (hb9.block _ hrow8.lt)
                go_wp2_with fail
                go_roundw
                case rel => exact ⟨i + 1, by go_num, by omega, hb8.trans (hb9.mono hb8.size), hrow9⟩
                case measure => simp [intOf]; omega
              · have hiq' : i = q'.length := by omega
                subst hiq'
                clear hiq hi hrow2 hrow hmb hr6
                have hnl : w5.heap.size < w6.heap.size := by have := HNB.out.2; omega
                have hbk := hbr2.block _ hnl
                rw [HNB.out.1] at hbk
                have hrN := row_of_block hbk
                have c0 : wr.cell? ⟨w5.heap.size, 0, none⟩ = some (.int .u64 (nsOf nx)) := hrN.cell (by omega)
                have c1 : wr.cell? ⟨w5.heap.size, 1, none⟩ = some (.int .i64 (scOf nx)) := hrN.cell (by omega)
                have c2 : wr.cell? ⟨w5.heap.size, 2, none⟩ = some (.pointer none) := hrN.cell (by omega)
                clear hrN hbk
                by_cases hqe : q' = []
                · have hnx : nx = 0 := HNX.out.2.1 hqe
                  subst hnx
                  have hPn : P.length = n := by have := HNX.out.1; rw [hqe] at this; simpa using this
                  have e1 : nsOf 0 = 0 := by decide
                  have e2 : scOf 0 = 0 := by decide
                  rw [e1] at c0
                  rw [e2] at c1
                  have hPi : ¬ (P.length : Int) < (n : Int) := by omega
                  go_wp2_with fail
                  refine (isZero_any wr).mono ?_
                  rintro e w9 ⟨rfl, hb9⟩
                  go_wp2_with fail
                  go_ret
                  exact ⟨rfl, F.below.trans (hb9.mono F.below.size)⟩
                · have hnx : nx = sv P.length := HNX.out.2.2 hqe
                  have hql0 : 0 < q'.length := List.length_pos_iff.2 hqe
                  have hPi : (P.length : Int) < (n : Int) := by have := HNX.out.1; omega
                  have hszb : -9223372036854775808 ≤ sv P.length ∧ sv P.length ≤ 9223372036854775807 := by
                    obtain ⟨x, hx⟩ := srt_from z n P.length (by omega)
                    have hx2 : sv P.length = z x := by rw [HSV.out]; exact hx
                    rw [hx2]; exact hz x
                  subst hnx
                  have hcs := F.sorted P.length (by omega)
                  go_wp2_with fail
                  have k1 := fun d os => cell_regrown hcs d os
                  have k2 := fun d os => cell_regrown c0 d os
                  have k3 := fun d os => cell_regrown c1 d os
                  have k4 := fun d os => cell_regrown c2 d os
                  have cA := fun d os => Calls.regrown_of (at_any (sv P.length) (Go.Sort.grow (redrawn wr d) os) hszb)
                  have cE := fun d os => Calls.regrown_of (equal_low (nsOf (sv P.length)) (scOf (sv P.length)) (nsOf (sv P.length)) (scOf (sv P.length)) (Go.Sort.grow (redrawn wr d) os) (nsOf_lo _) (nsOf_hi _) (nsOf_lo _) (nsOf_hi _) true (by show Hid (true = _); exact (by simp : true = decide (scOf (sv P.length) = scOf (sv P.length) ∧ nsOf (sv P.length) = nsOf (sv P.length)))))
                  refine wp_region_quiet_below (by kernel_rfl) (by kernel_rfl) ?_
                  repeat (first | quiet_step (exact cA _ _) | quiet_step (exact cE _ _))
                  refine wpQuiet_nil ?_
                  intro w9 hw'
                  obtain ⟨⟨dq9, osq9⟩, hw9⟩ := hw'
                  have hb9 : Below wr.heap.size wr w9 := by rw [hw9]; exact below_regrown wr dq9 osq9
                  clear k1 k2 k3 k4 cA cE hw9
                  go_wp2_with fail
                  go_ret
                  exact ⟨rfl, F.below.trans (hb9.mono F.below.size)⟩
end Go.Proofs.Ybulkdkyy
