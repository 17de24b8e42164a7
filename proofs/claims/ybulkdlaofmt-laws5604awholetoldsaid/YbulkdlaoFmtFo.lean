import Derived.Test.YbulkdlaoFmtSuf
import Derived.Deep.CutBlock
import Derived.Deep.DeepCutAuto
namespace Go.Proofs.YbulkdlaoFmt
set_option linter.unusedVariables false
set_option linter.unusedSimpArgs false
open Go.RowKit
open Go.Sort (grow)

def foP (A B : ByteArray) : Nat := cp A.toList B.toList
def foS (A B : ByteArray) : Nat := cp (A.extract (foP A B) A.size).toList.reverse (B.extract (foP A B) B.size).toList.reverse
def foM (A B : ByteArray) : ByteArray := B.extract (foP A B) (B.size - foS A B)
def keyI (M : ByteArray) : Nat → Int
  | 0 => 0
  | i + 1 => bits BinOp.or IntKind.u64 (keyI M i) (IntKind.u64.wrap (IntKind.u64.wrap ((M.data.getD i 0).toNat : Int) * 2 ^ (8 * i)))
def foB (A B : ByteArray) : Int :=
  bits BinOp.or IntKind.u64 (bits BinOp.or IntKind.u64 (bits BinOp.or IntKind.u64 (IntKind.u64.wrap (keyI (foM A B) (min (foM A B).size 4) * 4294967296)) (B.size * 1048576)) (foP A B * 1024)) (foS A B)
/-- The form of an id behind another. -/
def foI (A B : ByteArray) : Int := if 4 < (foM A B).size then bits BinOp.or IntKind.u64 (foB A B) 2147483648 else foB A B

set_option maxRecDepth 20000 in
set_option maxHeartbeats 800000 in
theorem fo_any (A B : ByteArray) (w : World) (ha : A.size ≤ 100) (hb : B.size ≤ 100) :
    Calls Ybaf.prog 50 #[.string A, .string B] w fun e w' => e = .returned (.int .u64 (foI A B)) ∧ Below w.heap.size w w' := by
  obtain ⟨p, hp⟩ : ∃ p, p = foP A B := ⟨_, rfl⟩
  obtain ⟨q, hq⟩ : ∃ q, q = foS A B := ⟨_, rfl⟩
  have hpA : p ≤ A.size := by rw [hp, ← blen]; exact (cp_le _ _).1
  have hpB : p ≤ B.size := by rw [hp, ← blen]; exact (cp_le _ _).2
  have hqB : q ≤ B.size - p := by
    rw [hq]
    have h := (cp_le (A.extract (foP A B) A.size).toList.reverse (B.extract (foP A B) B.size).toList.reverse).2
    rw [List.length_reverse, blen, ByteArray.size_extract] at h
    rw [hp]
    exact Nat.le_trans h (by omega)
  have hpi : ¬ (1023 : Int) < (p : Int) := by omega
  have hqi : ¬ (1023 : Int) < (q : Int) := by omega
  have c1 : ∀ w, Calls Ybaf.prog 72 #[.string A, .string B] w fun e w' => e = .returned (.int .i64 p) ∧ Below w.heap.size w w' := fun w => by rw [hp]; exact cpre_any A B w (by omega) (by omega)
  have c2 : ∀ w, Calls Ybaf.prog 73 #[.string (A.extract p A.size), .string (B.extract p B.size)] w fun e w' => e = .returned (.int .i64 q) ∧ Below w.heap.size w w' := fun w => by rw [hq, hp]; exact csuf_any _ _ w (by rw [ByteArray.size_extract]; omega) (by rw [ByteArray.size_extract]; omega)
  have HP : Hid (p = foP A B) := hp
  have HQ : Hid (q = foS A B) := hq
  clear hp hq
  have b1 : (p : Int) ≤ (A.size : Int) := by omega
  have b2 : (p : Int) ≤ (B.size : Int) := by omega
  have b3 : (p : Int) ≤ (B.size : Int) - (q : Int) := by omega
  have b4 : (B.size : Int) - (q : Int) ≤ (B.size : Int) := by omega
  go_enter Ybaf.func50, Ybaf.ntmps50
  go_wp2_with fail
  refine (c1 w).mono ?_
  rintro e w1 ⟨rfl, hb1⟩
  go_wp2_with fail
  have c3 := fun d os => Calls.regrown_of (c2 (grow (redrawn w1 d) os))
  refine wp_region_quiet_below (by kernel_rfl) (by kernel_rfl) ?_
  repeat (quiet_step (exact c3 _ _))
  refine wpQuiet_nil ?_
  intro _ hw'
  obtain ⟨⟨dq, osq⟩, hw''⟩ := hw'
  subst hw''
  have hb2 : Below w.heap.size w (grow (redrawn w1 dq) osq) := hb1.trans ((below_regrown w1 dq osq).mono hb1.size)
  generalize grow (redrawn w1 dq) osq = w2 at *
  clear c1 c2 c3 hb1
  go_upto_region 4 with fail
  have hq2 : ¬ (1023 : Int) < (q : Int) := by omega
  simp only [if_neg hq2]
  obtain ⟨M, hM⟩ : ∃ M, M = B.extract p (B.size - q) := ⟨_, rfl⟩
  have hMs : M.size = B.size - q - p := by rw [hM, ByteArray.size_extract]; omega
  rw [← hM]
  have HM : Hid (M = foM A B) := by show M = foM A B; unfold foM; rw [hM, HP.out, HQ.out]
  have hM1 : M.size ≤ 100 := by omega
  clear hM hMs
  go_upto_region 5 with fail
  go_cut [32, 33] from 30 to 31 (fun tv iv wc => ∃ T : Nat, tv = .int .i64 T ∧ iv = .int .i64 0 ∧ wc = w2 ∧ Hid (T = min M.size 4))
  case first =>
    by_cases h4 : 4 < M.size
    · have h4' : (4 : Int) < (M.size : Int) := by omega
      go_wp2_with fail
      go_meet
      case rel => exact ⟨4, rfl, rfl, rfl, show 4 = min M.size 4 by omega⟩
    · have h4' : ¬ (4 : Int) < (M.size : Int) := by omega
      go_wp2_with fail
      go_meet
      case rel => exact ⟨M.size, rfl, rfl, rfl, show M.size = min M.size 4 by omega⟩
  case rest =>
    obtain ⟨T, rfl, rfl, hwc, hT⟩ := hcut
    rw [hwc]
    clear hwc
    go_wp2_with fail
    clear b3 b4 hq2
    have hTM : T ≤ M.size := by have := hT.out; omega
    have hT4 : T ≤ 4 := by have := hT.out; omega
    go_loopw [8, 33] (fun kv iv wr => ∃ (i : Nat) (K : Int), kv = .int .u64 K ∧ iv = .int .i64 i ∧ i ≤ T ∧ Below w.heap.size w wr ∧ Hid (K = keyI M i)) (fun _ iv _ => T - (intOf iv).toNat)
    case atStart => exact ⟨0, 0, rfl, rfl, Nat.zero_le _, hb2, rfl⟩
    case round =>
      obtain ⟨i, K, rfl, rfl, hi, hbl, hK⟩ := hrel
      by_cases hil : i < T
      · have h1 : (i : Int) < (T : Int) := by omega
        have h2 : (i : Int) < (M.size : Int) := by omega
        have k2 : i < M.size := by omega
        go_wp2_with fail
        refine ⟨⟨i + 1, _, rfl, by go_num, by omega, hbl, ?_⟩, by simp [intOf]; omega⟩
        show _ = keyI M (i + 1)
        unfold keyI
        rw [← hK.out]
        have : M.data.getD i 0 = M[i]'k2 := by
          have h' : i < M.data.size := k2
          unfold Array.getD
          rw [dif_pos h']
          rfl
        rw [this]
      · have h1 : ¬ (i : Int) < (T : Int) := by omega
        have HT : Hid (i = min M.size 4) := by show i = _; have := hT.out; omega
        by_cases h4 : 4 < M.size
        · have h4' : (4 : Int) < (M.size : Int) := by omega
          have HR : Hid (foI A B = bits BinOp.or IntKind.u64 (bits BinOp.or IntKind.u64 (bits BinOp.or IntKind.u64 (bits BinOp.or IntKind.u64 (IntKind.u64.wrap (K * 4294967296)) (B.size * 1048576)) (p * 1024)) q) 2147483648) := by
            show foI A B = _
            unfold foI foB
            rw [← HM.out, if_pos h4, hK.out, HT.out, HP.out, HQ.out]
          go_wp2_with fail
          go_ret
          exact ⟨by rw [HR.out]; rfl, hbl⟩
        · have h4' : ¬ (4 : Int) < (M.size : Int) := by omega
          have HR : Hid (foI A B = bits BinOp.or IntKind.u64 (bits BinOp.or IntKind.u64 (bits BinOp.or IntKind.u64 (IntKind.u64.wrap (K * 4294967296)) (B.size * 1048576)) (p * 1024)) q) := by
            show foI A B = _
            unfold foI foB
            rw [← HM.out, if_neg h4, hK.out, HT.out, HP.out, HQ.out]
          go_wp2_with fail
          go_ret
          exact ⟨by rw [HR.out]; rfl, hbl⟩
end Go.Proofs.YbulkdlaoFmt
