import Derived.Test.YbulkdlaaT33
import Derived.Deep.CutBlock
import Derived.Deep.DeepCutAuto
import Derived.Deep.RegionHeld3
import Derived.Deep.DrawnRows
import Derived.Deep.AppendLies
namespace Go.Proofs.Ybulkdlaa
set_option linter.unusedVariables false
set_option linter.unusedSimpArgs false
open Go.RowKit
attribute [local go_sem ↓] Go.wp_at_zero Go.wp_at_succ

set_option maxRecDepth 20000 in
set_option maxHeartbeats 4000000 in
theorem law_any {w : World} {a0 : Option Addr} {n0 b0 o0 : Nat} {hs : Nat → Int} {hn hk : Nat → ByteArray} {a1 : Option Addr} {n1 b1 o1 : Nat} {an : Nat → ByteArray} {ai : Nat → Bool} {ak : Nat → Option Addr} {al ac kb ko : Nat → Nat} {ks : Nat → Nat → ByteArray}
    (I : Inp w a0 n0 b0 o0 hs hn hk a1 n1 b1 o1 an ai ak al ac kb ko ks) (cp0 cp1 : Nat) (hn0 : n0 ≤ 4096) (hn1 : n1 ≤ 4096) (gs : Int) (gn gk : ByteArray) (pick : Int) (hgs : 0 ≤ gs ∧ gs ≤ 255) (hgn : gn.size ≤ maxLen) (hgk : gk.size ≤ maxLen) (hp : 0 ≤ pick ∧ pick ≤ 65535) :
    Calls Yba.prog 3 #[.slice a0 n0 cp0, .slice a1 n1 cp1, .agg #[.int .u8 gs, .string gn, .string gk], .int .u16 pick] w fun e w' => e = .returned (.bool true) ∧ Below w.heap.size w w' := by
  have hi0 : ¬ (4096 : Int) < (n0 : Int) := by omega
  have hi1 : ¬ (4096 : Int) < (n1 : Int) := by omega
  go_enter Yba.func3, Yba.ntmps3
  go_wp2_with fail
  obtain ⟨wA, hwA⟩ : ∃ wA, wA = w.alloc (.cells #[.int .u8 gs, .string gn, .string gk] 25) := ⟨_, rfl⟩
  rw [← hwA]
  have hbA : Below w.heap.size w wA := by rw [hwA]; exact (Below.refl _ _).alloc (Nat.le_refl _) _
  have hbox : Hid (wA.heap[w.heap.size]? = some (.cells #[.int .u8 gs, .string gn, .string gk] 25) ∧ wA.heap.size = w.heap.size + 1) := ⟨by rw [hwA]; exact Deep.blk_alloc_new _ _, by rw [hwA]; simp⟩
  clear hwA
  go_loop [9, 59] (fun tv iv => ∃ (t : Int) (i : Nat), tv = .int .i64 t ∧ iv = .int .i64 i ∧ i ≤ n1 ∧ 0 ≤ t ∧ t ≤ 4096 * (i : Int) ∧ Hid (∀ j, j < i → al j ≤ 4096)) (fun _ iv => n1 - (intOf iv).toNat)
  case atStart => exact ⟨0, 0, rfl, rfl, Nat.zero_le _, by omega, by simp, fun j hj => by omega⟩
  case round =>
    obtain ⟨t, i, rfl, rfl, hi, ht0, ht1, hal⟩ := hrel
    by_cases hlt : i < n1
    · have hci : wA.cell? ⟨b1, o1 + i * 3 + 2, none⟩ = some (.slice (ak i) (al i) (ac i)) := by rw [hbA.cell (show b1 < w.heap.size from block_lt_of_cell (I.c2 i hlt))]; exact I.c2 i hlt
      obtain rfl := I.hA1 (by omega)
      have hii : (i : Int) < (n1 : Int) := by omega
      by_cases hbig : al i ≤ 4096
      · have hb' : ¬ (4096 : Int) < (al i : Int) := by omega
        go_wp2_with fail
        go_round
        case rel => exact ⟨_, i + 1, rfl, by go_num, by omega, by omega, by omega, fun j hj => by
          by_cases e : j = i
          · rw [e]; exact hbig
          · exact hal.out j (by omega)⟩
        case measure => simp [intOf]; omega
      · have hb' : (4096 : Int) < (al i : Int) := by omega
        go_wp2_with fail
        go_ret
        exact ⟨rfl, hbA⟩
    · have hin : i = n1 := by omega
      subst hin
      clear hlt hi
      by_cases htot : 4096 < t
      · go_wp2_with fail
        go_ret
        exact ⟨rfl, hbA⟩
      · have hmm := @run_makeMap Yba.prog
        go_upto_if 84 with fail
        have L0 := L1.start _ hbA hbox.out.1 hbox.out.2
        rw [hbox.out.2]
        generalize wA.alloc (.cells #[.int .i32 0, .int .u32 0, .map none, .map none, .int .u64 0, .int .i64 0, .pointer none, .nilIface] 47) = wB at *
        clear hbox hbA
        go_cut [] from 82 to 88 (fun wc => ∃ vm, L1 w wc (w.heap.size + 1) w.heap.size #[.int .u8 gs, .string gn, .string gk] vm (.slice none 0 0) [] 0 ∧ (0 < n0 → ∃ bm, vm = .map (some bm)))
        case first =>
          have hm0 := L0.rb.m
          have hf0 := L0.rb.frozen 2
          have hRl := L0.rb.lt
          by_cases hz0 : 0 < n0
          · have hz0' : (0 : Int) < (n0 : Int) := by omega
            go_wp2_with fail
            go_meet
            case rel => exact ⟨_, L0.made, fun _ => ⟨_, rfl⟩⟩
          · have hz0' : ¬ (0 : Int) < (n0 : Int) := by omega
            go_wp2_with fail
            go_meet
            case rel => exact ⟨_, L0, fun h => absurd h hz0⟩
        case rest =>
          obtain ⟨vm, L, hvm⟩ := hcut
          clear L0
          go_wp2_with fail
          go_loopw [12, 91] (fun dv iv wr => ∃ (i : Nat) (dm : DM), iv = .int .i64 i ∧ i ≤ n0 ∧ L1 w wr (w.heap.size + 1) w.heap.size #[.int .u8 gs, .string gn, .string gk] vm dv dm i) (fun _ iv _ => n0 - (intOf iv).toNat)
          case atStart => exact ⟨0, [], rfl, Nat.zero_le _, L⟩
          case round =>
            obtain ⟨j, dm, rfl, hj, L⟩ := hrel
            obtain ⟨ad, cd, hdv⟩ := L.row.slice
            subst hdv
            by_cases hlt : j < n0
            · --BEGIN1
              obtain ⟨bm, hbm⟩ := hvm (by omega)
              subst hbm
              obtain rfl := I.hA0 (by omega)
              have hb0 : b0 < w.heap.size := block_lt_of_cell (I.h0 j hlt)
              have hb0r : b0 < wr.heap.size := Nat.lt_of_lt_of_le hb0 L.below.size
              have e0 : wr.cell? ⟨b0, o0 + j * 3, none⟩ = some (.int .u8 (hs j)) := by rw [L.below.cell hb0]; exact I.h0 j hlt
              have e1 : wr.cell? ⟨b0, o0 + j * 3 + 1, none⟩ = some (.string (hn j)) := by rw [L.below.cell hb0]; exact I.h1 j hlt
              have e2 : wr.cell? ⟨b0, o0 + j * 3 + 2, none⟩ = some (.string (hk j)) := by rw [L.below.cell hb0]; exact I.h2 j hlt
              have hji : (j : Int) < (n0 : Int) := by omega
              clear hmm
              go_wp2_with fail
              refine (key_any (hs j) (hn j) (hk j) _ (I.hsb j)).mono ?_
              rintro e w1 ⟨rfl, hb1⟩
              obtain ⟨x, hx⟩ : ∃ x : RK, x = (spc (hs j), hn j, hk j) := ⟨_, rfl⟩
              have hfx : fits x := by rw [hx]; exact ⟨spc_size _, I.hnb j hlt, I.hkb j hlt⟩
              rw [← hx]
              clear hx e0 e1 e2
              unfold kv
              go_wp2_with fail
              obtain ⟨w2, hw2⟩ : ∃ w2, w2 = w1.alloc (.cells #[.string x.1, .string x.2.1, .string x.2.2] 51) := ⟨_, rfl⟩
              obtain ⟨B, hB⟩ : ∃ B, B = w1.heap.size := ⟨_, rfl⟩
              rw [← hw2, ← hB]
              have hwb : Below wr.heap.size wr w2 := by
                have h1 : Below wr.heap.size wr w1 := ((Below.refl _ wr).alloc (Nat.le_refl _) _).trans (hb1.mono (by simp))
                rw [hw2]; exact h1.alloc h1.size _
              have hBo : w2.heap[B]? = some (.cells #[.string x.1, .string x.2.1, .string x.2.2] 51) := by rw [hw2, hB]; exact Deep.blk_alloc_new _ _
              have hBw : wr.heap.size ≤ B := by rw [hB]; have := hb1.size; simp at this; omega
              clear hw2 hB hb1
              have L2 := L.keep hwb
              have hMb : MG kv 51 w2.drew bm j (fmOf dm) dm.length := by
                rcases L2.m with ⟨h, _⟩ | ⟨b, h, hm⟩
                · cases h
                · cases h; exact hm.block rfl
              obtain ⟨kl, hkl⟩ := key_of51 x hfx
              obtain ⟨w3, hst, hm3, hT3⟩ := hMb.store keyed51 kv_inj Yba.underlying38 (by unfold maxLen; omega) hkl (hv x ((j : Int) + 1))
              have M3 := L.mid hfx hwb hBo hBw hm3 hT3
              have rm := L2.rb.m
              have q0 : w2.cell? ⟨B, 0, none⟩ = some (.string x.1) := by simp [World.cell?, hBo]
              have q1 : w2.cell? ⟨B, 1, none⟩ = some (.string x.2.1) := by simp [World.cell?, hBo]
              have q2 : w2.cell? ⟨B, 2, none⟩ = some (.string x.2.2) := by simp [World.cell?, hBo]
              simp only [kv, hv] at hst
              refine region_tail 10 (by kernel_rfl) ?_
              simp only [List.take_succ_cons, List.take_zero, List.drop_succ_cons, List.drop_zero]
              repeat still_step
              refine wpStill_nil ?_
              go_upto_block 4 with fail
              rw [hst]
              clear hst rm q0 q1 q2 hm3 hT3 hMb hBo hwb L2
              go_upto_block 4 with fail
              go_cut [16] from 92 to 136 (fun fv wc => ∃ (dm2 : DM) (fnd : Bool), fv = .bool fnd ∧ Mid w wc (w.heap.size + 1) w.heap.size #[.int .u8 gs, .string gn, .string gk] bm (.slice ad dm.length cd) dm dm2 x ((j : Int) + 1) j B ∧ Hid ((fnd = true ∧ ∃ t p, dm[t]? = some p ∧ p.1 = x ∧ dm2 = dm.set t (x, (j : Int) + 1)) ∨ (fnd = false ∧ dm2 = dm ∧ ∀ p, p ∈ dm → p.1 ≠ x)))
              case first =>
                go_wp2_with fail
                go_loopw [16, 110] (fun fv iv wr2 => ∃ t : Nat, fv = .bool false ∧ iv = .int .i64 t ∧ t ≤ dm.length ∧ Kp (fun _ => False) w3 wr2 ∧ Hid (∀ s p, s < t → dm[s]? = some p → p.1 ≠ x)) (fun _ iv _ => dm.length - (intOf iv).toNat)
                case atStart => exact ⟨0, rfl, rfl, Nat.zero_le _, Kp.refl _ _, fun s p hs => by omega⟩
                case round =>
                  obtain ⟨t, rfl, rfl, ht, hk, hno⟩ := hrel
                  have M4 := M3.same hk
                  have hlenb := M4.len
                  by_cases htl : t < dm.length
                  · obtain ⟨p, hp⟩ : ∃ p, dm[t]? = some p := ⟨_, List.getElem?_eq_getElem htl⟩
                    obtain ⟨g, cap', hg⟩ := M4.row.form (by omega)
                    simp only [Value.slice.injEq] at hg
                    obtain ⟨rfl, _, rfl⟩ := hg
                    obtain ⟨r0, r1, r2, r3⟩ := cells_of M4.row hp
                    have q0 := M4.b0
                    have q1 := M4.b1
                    have q2 := M4.b2
                    have hfz := M4.row.frozen rfl (t * 4 + 3)
                    have heq := fun w => eql51 p.1 x w
                    have hti : (t : Int) < (dm.length : Int) := by omega
                    simp only [kv] at heq
                    go_wp2_with fail
                    refine region_still (by kernel_rfl) ?_
                    repeat still_step
                    refine wpStill_nil ?_
                    clear heq
                    have hji2 : (j : Int) + 1 ≤ 4096 := by omega
                    by_cases hpx : p.1 = x
                    · have hdec : decide (p.1 = x) = true := by simpa using hpx
                      have M5 := (M4.stored hp hpx).same (w' := (wr.setCell ⟨g, t * 4 + 3, none⟩ (.int .i64 ((j : Int) + 1))).drew) ((Kp.refl _ _).drew)
                      have HPX : Hid (p.1 = x) := hpx
                      clear hpx
                      go_wp2_with fail
                      go_meet
                      case rel => exact ⟨_, true, rfl, M5, .inl ⟨rfl, t, p, hp, HPX.out, rfl⟩⟩
                    · have hdec : decide (p.1 = x) = false := by simpa using hpx
                      go_wp2_with fail
                      go_roundw
                      case rel => exact ⟨t + 1, rfl, by go_num, by omega, hk.drew, fun s q hs hq => by
                        by_cases e : s = t
                        · subst e; rw [hp] at hq; cases hq; exact hpx
                        · exact hno.out s q (by omega) hq⟩
                      case measure => simp [intOf]; omega
                  · have hno2 : Hid (∀ p, p ∈ dm → p.1 ≠ x) := fun p hp => by
                      obtain ⟨s, hs⟩ := List.mem_iff_getElem?.1 hp
                      exact hno.out s p (by have := (List.getElem?_eq_some_iff.1 hs).1; omega) hs
                    have htl' : ¬ (t : Int) < (dm.length : Int) := by omega
                    go_wp2_with fail
                    go_meet
                    case rel => exact ⟨dm, false, rfl, M4, .inr ⟨rfl, rfl, hno2.out⟩⟩
              case rest =>
                obtain ⟨dm2, fnd, rfl, M4, hcase⟩ := hcut
                clear M3 L
                have hlenb := M4.len
                rcases hcase with ⟨rfl, t, p, hp, hpx, rfl⟩ | ⟨rfl, rfl, hno⟩
                · have L5 := M4.toL1 (.inl ⟨t, p, hp, hpx, rfl⟩)
                  clear hpx
                  go_wp2_with fail
                  go_roundw
                  case rel => exact ⟨j + 1, _, by go_num, by omega, L5⟩
                  case measure => simp [intOf]; omega
                · have HNO : Hid (∀ p, p ∈ dm2 → p.1 ≠ x) := hno
                  clear hno
                  obtain ⟨i0, hii, hz0, hz1, hz2⟩ := info_parts info61
                  have q0 := M4.b0
                  have q1 := M4.b1
                  have q2 := M4.b2
                  go_wp2_with (at_builtin; refine wpList_append_own_at _ rfl _ _ 48 rfl 0 61 i0 _ 4 56 Yba.underlying48 hii hz0 hz1 hz2 rfl (by decide) _ _ _ rfl (World.ownsRow.alloc M4.row _) ⟨wc.heap.size, 0, none⟩ 1 1 (encH (x, (j : Int) + 1)) rfl rfl ?q1 ?q2 ?q3 ?q4 ?q5 ?q6)
                  case q1 => exact cell_new wc (encH (x, (j : Int) + 1)) 61
                  case q2 => intro u hu; simp [encH] at hu; rcases hu with rfl | rfl | rfl | rfl <;> rfl
                  case q3 => unfold maxLen; omega
                  case q4 => omega
                  case q5 => omega
                  intro v' w' hown hgrow hnil hloc
                  have L5 := M4.append hown hgrow hloc HNO.out
                  clear hown hgrow hnil hloc q0 q1 q2 M4
                  go_wp2_with fail
                  go_roundw
                  case rel => exact ⟨j + 1, _, by go_num, by omega, L5⟩
                  case measure => simp [intOf]; omega
              --END1
            · have hjn : j = n0 := by omega
              subst hjn
              clear hlt hj
              have hlt' : ¬ (j : Int) < (j : Int) := by omega
              go_upto_region 33 with fail
              exact t33 I hn0 hn1 hgs hgn hgk hp hal L (by assumption)
end Go.Proofs.Ybulkdlaa
