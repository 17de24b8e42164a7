import Derived.Test.YbulkdlaaHeap
namespace Go.Proofs.Ybulkdlaa
set_option linter.unusedVariables false
set_option linter.unusedSimpArgs false
open Go.RowKit
open Go.Maps (Keyed)

/-- w' is w but for new blocks and the blocks in T. -/
structure Kp (T : Nat → Prop) (w w' : World) : Prop where
  os : w'.os = w.os
  tape : w'.tape = w.tape
  output : w'.output = w.output
  size : w.heap.size ≤ w'.heap.size
  block : ∀ b, b < w.heap.size → ¬ T b → w'.heap[b]? = w.heap[b]?
namespace Kp
variable {T U : Nat → Prop} {w w' w'' : World}
theorem refl (T : Nat → Prop) (w : World) : Kp T w w := ⟨rfl, rfl, rfl, Nat.le_refl _, fun _ _ _ => rfl⟩
theorem trans (h : Kp T w w') (k : Kp T w' w'') : Kp T w w'' :=
  ⟨k.os.trans h.os, k.tape.trans h.tape, k.output.trans h.output, Nat.le_trans h.size k.size, fun b hb ht => (k.block b (Nat.lt_of_lt_of_le hb h.size) ht).trans (h.block b hb ht)⟩
theorem wider (h : Kp T w w') (hU : ∀ b, b < w.heap.size → T b → U b) : Kp U w w' := ⟨h.os, h.tape, h.output, h.size, fun b hb hn => h.block b hb (fun ht => hn (hU b hb ht))⟩
theorem ofBelow (h : Below w.heap.size w w') : Kp T w w' := ⟨h.os, h.tape, h.output, h.size, fun b hb _ => h.block b hb⟩
theorem drew (h : Kp T w w') : Kp T w w'.drew := ⟨h.os, h.tape, h.output, h.size, h.block⟩
theorem alloc (h : Kp T w w') (o : Obj) : Kp T w (w'.alloc o) :=
  ⟨h.os, h.tape, h.output, Nat.le_trans h.size (by simp), fun b hb hn => (RowKit.Below.heap_alloc _ _ _ (Nat.lt_of_lt_of_le hb h.size)).trans (h.block b hb hn)⟩
theorem setCell (h : Kp T w w') {a : Addr} (ha : T a.block ∨ w.heap.size ≤ a.block) (v : Value) : Kp T w (w'.setCell a v) :=
  ⟨h.os, h.tape, h.output, by rw [World.size_setCell]; exact h.size, fun b hb hn => (RowKit.Below.heap_setCell _ _ _ _ (by
    rintro rfl
    rcases ha with ha | ha
    · exact hn ha
    · omega)).trans (h.block b hb hn)⟩
theorem below (h : Kp T w w') {B : Nat} (hB : B ≤ w.heap.size) (hT : ∀ b, T b → B ≤ b) : Below B w w' := ⟨h.os, h.tape, h.output, h.size, fun b hb => h.block b (by omega) (fun ht => by have := hT b ht; omega)⟩
theorem turn {v : Value} (h : Kp T w w') (ht : Turn w' w'' v) (hT : ∀ b, v = .map (some b) → T b ∨ w.heap.size ≤ b) : Kp T w w'' := by
  obtain ⟨h1, h2, h3, h4, h5⟩ := ht.parts
  refine ⟨h3.trans h.os, h2.trans h.tape, h4.trans h.output, by rw [h1]; exact h.size, fun b hb hn => ?_⟩
  rw [h5 b (fun e => ?_)]
  · exact h.block b hb hn
  · rcases hT b e with h' | h'
    · exact hn h'
    · omega
end Kp

theorem adv_dec (s : ByteArray) : (s.toList == [97, 100, 118, 101, 114, 116, 105, 115, 101, 109, 101, 110, 116]) = decide (s = adv) := by
  rw [← str_dec, show adv.toList = [97, 100, 118, 101, 114, 116, 105, 115, 101, 109, 101, 110, 116] from by rw [ByteArray.toList_eq]; rfl]

def isB (v : Value) (b : Nat) : Prop := v = .map (some b)

theorem zero66 (w : World) : (zeroValue 66).run Yba.prog w = .ok (.map none) w := by kernel_rfl
theorem zero4 (w : World) : (zeroValue 4).run Yba.prog w = .ok (.bool false) w := by kernel_rfl

/-- What unset leaves. -/
structure UPost (w w' : World) (R : Nat) (vm va iv : Value) (x : RK) (n1 n2 n3 szm sza szi : Nat) (fm fi : RK → Option Value) (fa : ByteArray → Option Value) : Prop where
  rb : RB w' R vm va
  m : MO kv 51 w' vm n1 (delM fm x) (if (fm x).isSome then szm - 1 else szm)
  other : (x.1 ≠ adv ∨ iv = .map none) → MO kv 51 w' iv n3 fi szi ∧ MO .string 9 w' va n2 fa sza
  hit : x.1 = adv → iv ≠ .map none → MO kv 51 w' iv n3 (delM fi x) (if (fi x).isSome then szi - 1 else szi) ∧
    ((if (fi x).isSome then szi - 1 else szi) ≠ 0 → MO .string 9 w' va n2 fa sza) ∧
    ((if (fi x).isSome then szi - 1 else szi) = 0 → MO .string 9 w' va n2 (delM fa x.2.1) (if (fa x.2.1).isSome then sza - 1 else sza))
  kp : Kp (fun b => isB vm b ∨ isB va b ∨ isB iv b) w w'

set_option maxRecDepth 10000 in
set_option maxHeartbeats 1000000 in
theorem unset_any {w : World} {R : Nat} {vm va iv : Value} {n1 n2 n3 szm sza szi : Nat} {fm fi : RK → Option Value} {fa : ByteArray → Option Value} (x : RK) (hx : fits x) (hR : RB w R vm va) (hM : MO kv 51 w vm n1 fm szm) (hA : MO .string 9 w va n2 fa sza)
    (hiv : iv = (fa x.2.1).getD (.map none)) (hI : MO kv 51 w iv n3 fi szi) (s1 : ∀ b, isB vm b → ¬ isB va b) (s2 : ∀ b, isB iv b → ¬ isB vm b ∧ ¬ isB va b) :
    Calls Yba.prog 5 #[.pointer (some ⟨R, 0, none⟩), kv x] w fun e w' => e = .returned (.tuple #[]) ∧ UPost w w' R vm va iv x n1 n2 n3 szm sza szi fm fi fa := by
  obtain ⟨om, rfl⟩ := hM.form
  obtain ⟨oa, rfl⟩ := hA.form
  obtain ⟨kl, hkl⟩ := key_of51 x hx
  have hk9 := key_of9 x.2.1 hx.2.1
  obtain ⟨wb, hwb⟩ : ∃ wb, wb = w.alloc (.cells #[.string x.1, .string x.2.1, .string x.2.2] 51) := ⟨_, rfl⟩
  have hbb : Below w.heap.size w wb := by rw [hwb]; exact (Below.refl _ w).alloc (Nat.le_refl _) _
  have c0 : wb.cell? ⟨w.heap.size, 0, none⟩ = some (.string x.1) := by rw [hwb]; simp
  have c1 : wb.cell? ⟨w.heap.size, 1, none⟩ = some (.string x.2.1) := by rw [hwb]; simp
  have c2 : wb.cell? ⟨w.heap.size, 2, none⟩ = some (.string x.2.2) := by rw [hwb]; simp
  have hRb := hR.block (hbb.block _ hR.lt)
  have hMb := hM.block (w' := wb) (fun b hb => hbb.block _ (hM.lt hb))
  have hAb := hA.block (w' := wb) (fun b hb => hbb.block _ (hA.lt hb))
  have hIb := hI.block (w' := wb) (fun b hb => hbb.block _ (hI.lt hb))
  obtain ⟨w1, hd1, hM1, hT1⟩ := MO.drop (w := wb.drew) (hMb.block (fun _ _ => rfl)) keyed51 kv_inj Yba.underlying38 hkl 0
  have rm := hRb.m
  have ra := hRb.a
  simp only [kv] at hd1
  unfold kv
  go_enter Yba.func5, Yba.ntmps5
  go_wp2_with fail
  rw [← hwb]
  clear hwb
  refine region_tail 5 (by kernel_rfl) ?_
  simp only [List.take_succ_cons, List.take_zero, List.drop_succ_cons, List.drop_zero]
  repeat still_step
  refine wpStill_nil ?_
  go_wp2_with fail
  -- behind the first delete
  obtain ⟨z1, z2, z3, z4, hbl1⟩ := hT1.parts
  have hRo := hRb.obj
  have hR1 : RB w1 R (.map om) (.map oa) := hRb.block (hbl1 R (fun e => by
    obtain ⟨cur, hc⟩ := hRo
    obtain ⟨es, c, hm⟩ := hMb.isMap e
    rw [hc] at hm; cases hm))
  have hA1 : MO .string 9 w1 (.map oa) n2 fa sza := hAb.block (fun b hb => hbl1 b (fun e => s1 b e hb))
  have hI1 : MO kv 51 w1 iv n3 fi szi := hIb.block (fun b hb => hbl1 b (fun e => (s2 b hb).1 e))
  have hwl : w.heap.size < wb.heap.size := block_lt_of_cell c0
  have hne0 : (.map om : Value) ≠ .map (some w.heap.size) := fun e => by have := hM.lt e; omega
  have d0 : w1.cell? ⟨w.heap.size, 0, none⟩ = some (.string x.1) := by rw [World.cell?_of_block (w := wb) (hbl1 w.heap.size hne0)]; exact c0
  have d1 : w1.cell? ⟨w.heap.size, 1, none⟩ = some (.string x.2.1) := by rw [World.cell?_of_block (w := wb) (hbl1 w.heap.size hne0)]; exact c1
  have d2 : w1.cell? ⟨w.heap.size, 2, none⟩ = some (.string x.2.2) := by rw [World.cell?_of_block (w := wb) (hbl1 w.heap.size hne0)]; exact c2
  have hl1 := MO.look1 (w := w1.drew) (hA1.block (fun _ _ => rfl)) keyed9 Yba.underlying39 (zero66 _) hk9
  rw [← hiv] at hl1
  obtain ⟨oi, rfl⟩ := hI.form
  have HIV : Hid (Value.map oi = (fa x.2.1).getD (.map none)) := hiv
  clear hiv
  have ra1 := hR1.a
  clear hd1 c0 c1 c2 rm ra
  refine region_still (by kernel_rfl) ?_
  repeat still_step
  refine wpStill_nil ?_
  have hq66 := fun (w : World) (r : Option Nat) => run_neq_map_nil (P := Yba.prog) w _ _ _ r Yba.underlying66
  have hK1 : Kp (fun b => isB (.map om) b ∨ isB (.map oa) b ∨ isB (.map oi) b) w w1 := ((Kp.ofBelow hbb).drew).turn hT1 (fun b hb => .inl (.inl hb))
  clear hl1 ra1
  by_cases hadv : x.1 = adv
  · have had : (x.1.toList == [97, 100, 118, 101, 114, 116, 105, 115, 101, 109, 101, 110, 116]) = true := by rw [adv_dec]; simpa using hadv
    have HAD : Hid (x.1 = adv) := hadv
    clear hadv
    cases oi with
    | none =>
      go_wp2_with fail
      go_end0
      exact ⟨rfl, hR1.block rfl, hM1.block (fun _ _ => rfl), fun _ => ⟨hI1.block (fun _ _ => rfl), hA1.block (fun _ _ => rfl)⟩, fun _ h => absurd rfl h, hK1.drew⟩
    | some bi =>
      obtain ⟨w2, hd2, hM2, hT2⟩ := MO.drop (w := w1.drew) (hI1.block (fun _ _ => rfl)) keyed51 kv_inj Yba.underlying66 hkl 0
      obtain ⟨y1, y2, y3, y4, hbl2⟩ := hT2.parts
      simp only [kv] at hd2
      have hlen := MO.len hM2 Yba.underlying66
      have hibl := hI1.lt rfl
      obtain ⟨sz', hsz'⟩ : ∃ sz', sz' = (if (fi x).isSome then szi - 1 else szi) := ⟨_, rfl⟩
      rw [← hsz'] at hlen hM2
      have HSZ : Hid (sz' = (if (fi x).isSome then szi - 1 else szi)) := hsz'
      clear hsz'
      have hni : ∀ b, b ≠ bi → w2.heap[b]? = w1.drew.heap[b]? := fun b hb => hbl2 b (fun e => by simp at e; exact hb e.symm)
      have hRi : R ≠ bi := fun e => by
        obtain ⟨cur, hc⟩ := hR1.obj
        obtain ⟨es, c, hm⟩ := hI1.isMap rfl
        rw [← e, hc] at hm; cases hm
      have hR2 : RB w2 R (.map om) (.map oa) := hR1.block (hni R hRi)
      have hMm2 : MO kv 51 w2 (.map om) n1 (delM fm x) (if (fm x).isSome then szm - 1 else szm) := hM1.block (fun b hb => hni b (fun e => (s2 bi rfl).1 (by rw [← e]; exact hb)))
      have hA2 : MO .string 9 w2 (.map oa) n2 fa sza := hA1.block (fun b hb => hni b (fun e => (s2 bi rfl).2 (by rw [← e]; exact hb)))
      have hK2 : Kp (fun b => isB (.map om) b ∨ isB (.map oa) b ∨ isB (.map (some bi)) b) w w2 := hK1.drew.turn hT2 (fun b hb => .inl (.inr (.inr hb)))
      by_cases hz : sz' = 0
      · subst hz
        have hne1 : w.heap.size ≠ bi := fun e => by have := hI.lt rfl; omega
        have f1 : w2.cell? ⟨w.heap.size, 1, none⟩ = some (.string x.2.1) := by rw [World.cell?_of_block (w := w1) (hni _ hne1)]; exact d1
        obtain ⟨w3, hd3, hA3, hT3⟩ := MO.drop (w := w2.drew) (hA2.block (fun _ _ => rfl)) keyed9 str_inj Yba.underlying39 hk9 0
        obtain ⟨x1, x2, x3, x4, hbl3⟩ := hT3.parts
        have ra2 := hR2.a
        go_wp2_with fail
        refine region_tail 6 (by kernel_rfl) ?_
        simp only [List.take_succ_cons, List.take_zero, List.drop_succ_cons, List.drop_zero]
        repeat still_step
        refine wpStill_nil ?_
        go_wp2_with fail
        go_end0
        have hR3 : RB w3 R (.map om) (.map oa) := hR2.block (hbl3 R (fun e => by
          obtain ⟨cur, hc⟩ := hR2.obj
          obtain ⟨es, c, hm⟩ := hA2.isMap e
          rw [hc] at hm; cases hm))
        refine ⟨rfl, hR3, hMm2.block (fun b hb => hbl3 b (fun e => s1 b hb e)), fun h => ?_, fun _ _ => ⟨?_, fun h => ?_, fun _ => ?_⟩, hK2.drew.turn hT3 (fun b hb => .inl (.inr (.inl hb)))⟩
        · rcases h with h | h
          · exact absurd HAD.out h
          · cases h
        · rw [← HSZ.out]; exact hM2.block (fun b hb => hbl3 b (fun e => (s2 b hb).2 e))
        · exact absurd HSZ.out.symm h
        · exact hA3
      · have hzi : ((sz' : Int) == 0) = false := by simp; omega
        go_wp2_with fail
        go_end0
        refine ⟨rfl, hR2, hMm2, fun h => ?_, fun _ _ => ⟨?_, fun h => ?_, fun h => ?_⟩, hK2⟩
        · rcases h with h | h
          · exact absurd HAD.out h
          · cases h
        · rw [← HSZ.out]; exact hM2
        · exact hA2
        · exact absurd (HSZ.out.trans h) hz
  · have had : (x.1.toList == [97, 100, 118, 101, 114, 116, 105, 115, 101, 109, 101, 110, 116]) = false := by rw [adv_dec]; simpa using hadv
    go_wp2_with fail
    go_end0
    exact ⟨rfl, hR1.block rfl, hM1.block (fun _ _ => rfl), fun _ => ⟨hI1.block (fun _ _ => rfl), hA1.block (fun _ _ => rfl)⟩, fun h => absurd h hadv, hK1.drew⟩
end Go.Proofs.Ybulkdlaa
