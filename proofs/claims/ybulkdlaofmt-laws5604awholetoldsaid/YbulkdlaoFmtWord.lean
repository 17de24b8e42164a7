import Derived.Test.YbulkdlaoFmtEq8
import Derived.Lib.ConvBytes
namespace Go.Proofs.YbulkdlaoFmt
set_option linter.unusedVariables false
set_option linter.unusedSimpArgs false
open Go.RowKit
open Go.Sort (grow)
attribute [local go_sem ↓] Go.wp_at_zero Go.wp_at_succ

theorem below_bytes (w : World) (e : TypeId) (s : ByteArray) : Below w.heap.size w (Lib.bytesWorld w e s) :=
  ⟨rfl, rfl, rfl, by rw [Lib.bytesWorld_size]; exact Nat.le_succ _, fun k hk => Lib.bytesWorld_at_old w e s k hk⟩

theorem arr_any (W : World) (b c : Nat) : (Instr.arrayAt 141 (.slice (some ⟨b, 0, none⟩) 8 c)).run Ybaf.prog W = .ok (.pointer (some ⟨b, 0, none⟩)) W := by
  simp [Instr.arrayAt, run_underlying Ybaf.underlying141]

set_option maxRecDepth 20000 in
set_option maxHeartbeats 4000000 in
theorem word_any (s t : ByteArray) (i j : Nat) (b0 b1 b2 b3 b4 b5 b6 b7 c0 c1 c2 c3 c4 c5 c6 c7 : UInt8) (w : World) (hs : s.extract i (i + 8) = ⟨#[b0, b1, b2, b3, b4, b5, b6, b7]⟩) (ht : t.extract j (j + 8) = ⟨#[c0, c1, c2, c3, c4, c5, c6, c7]⟩)
    (his : i + 8 ≤ s.size) (hjs : j + 8 ≤ t.size) (hsz : s.size ≤ 1048576) (htz : t.size ≤ 1048576) :
    Calls Ybaf.prog 51 #[.string s, .int .i64 i, .string t, .int .i64 j] w fun r w' => r = .returned (.bool (decide ((⟨#[b0, b1, b2, b3, b4, b5, b6, b7]⟩ : ByteArray) = ⟨#[c0, c1, c2, c3, c4, c5, c6, c7]⟩))) ∧ Below w.heap.size w w' := by
  obtain ⟨p, hp⟩ : ∃ p, p = i + 8 := ⟨_, rfl⟩
  obtain ⟨q, hq⟩ : ∃ q, q = j + 8 := ⟨_, rfl⟩
  rw [← hp] at hs
  rw [← hq] at ht
  have e1 : (i : Int) + 8 = (p : Int) := by omega
  have e2 : (j : Int) + 8 = (q : Int) := by omega
  have w1 : IntKind.i64.wrap (p : Int) = (p : Int) := by rw [wrap_id (by omega) (by omega)]
  have w2 : IntKind.i64.wrap (q : Int) = (q : Int) := by rw [wrap_id (by omega) (by omega)]
  have l1 : (i : Int) ≤ (p : Int) := by omega
  have l2 : (j : Int) ≤ (q : Int) := by omega
  have m1 : (p : Int) ≤ (s.size : Int) := by omega
  have m2 : (q : Int) ≤ (t.size : Int) := by omega
  clear hp hq his hjs
  have hcX := fun (w : World) => Lib.run_convert_string_bytes (P := Ybaf.prog) w 9 22 5 ⟨#[b0, b1, b2, b3, b4, b5, b6, b7]⟩ Ybaf.underlying9 Ybaf.underlying22 Ybaf.underlying5
  have hcY := fun (w : World) => Lib.run_convert_string_bytes (P := Ybaf.prog) w 9 22 5 ⟨#[c0, c1, c2, c3, c4, c5, c6, c7]⟩ Ybaf.underlying9 Ybaf.underlying22 Ybaf.underlying5
  have hzX := fun (w : World) => Lib.bytesWorld_size w 5 ⟨#[b0, b1, b2, b3, b4, b5, b6, b7]⟩
  have hzY := fun (w : World) => Lib.bytesWorld_size w 5 ⟨#[c0, c1, c2, c3, c4, c5, c6, c7]⟩
  have xa0 : (Lib.bytesWorld w.drew 5 ⟨#[b0, b1, b2, b3, b4, b5, b6, b7]⟩).cell? ⟨w.heap.size, 0, none⟩ = some (.int .u8 b0.toNat) := Lib.bytesWorld_cell w.drew 5 ⟨#[b0, b1, b2, b3, b4, b5, b6, b7]⟩ 0 (Nat.le_of_ble_eq_true rfl)
  have xb0 : (Lib.bytesWorld (Lib.bytesWorld w.drew 5 ⟨#[b0, b1, b2, b3, b4, b5, b6, b7]⟩) 5 ⟨#[c0, c1, c2, c3, c4, c5, c6, c7]⟩).cell? ⟨w.heap.size, 0, none⟩ = some (.int .u8 b0.toNat) := (World.cell?_of_block (Lib.bytesWorld_at_old _ 5 ⟨#[c0, c1, c2, c3, c4, c5, c6, c7]⟩ _ (by rw [Lib.bytesWorld_size]; exact Nat.lt_succ_self _))).trans xa0
  have xc0 : (Lib.bytesWorld (Lib.bytesWorld w.drew 5 ⟨#[c0, c1, c2, c3, c4, c5, c6, c7]⟩) 5 ⟨#[b0, b1, b2, b3, b4, b5, b6, b7]⟩).cell? ⟨w.heap.size + 1, 0, none⟩ = some (.int .u8 b0.toNat) := by
    have h := Lib.bytesWorld_cell (Lib.bytesWorld w.drew 5 ⟨#[c0, c1, c2, c3, c4, c5, c6, c7]⟩) 5 ⟨#[b0, b1, b2, b3, b4, b5, b6, b7]⟩ 0 (Nat.le_of_ble_eq_true rfl)
    rw [Lib.bytesWorld_size] at h
    exact h
  have xa1 : (Lib.bytesWorld w.drew 5 ⟨#[b0, b1, b2, b3, b4, b5, b6, b7]⟩).cell? ⟨w.heap.size, 1, none⟩ = some (.int .u8 b1.toNat) := Lib.bytesWorld_cell w.drew 5 ⟨#[b0, b1, b2, b3, b4, b5, b6, b7]⟩ 1 (Nat.le_of_ble_eq_true rfl)
  have xb1 : (Lib.bytesWorld (Lib.bytesWorld w.drew 5 ⟨#[b0, b1, b2, b3, b4, b5, b6, b7]⟩) 5 ⟨#[c0, c1, c2, c3, c4, c5, c6, c7]⟩).cell? ⟨w.heap.size, 1, none⟩ = some (.int .u8 b1.toNat) := (World.cell?_of_block (Lib.bytesWorld_at_old _ 5 ⟨#[c0, c1, c2, c3, c4, c5, c6, c7]⟩ _ (by rw [Lib.bytesWorld_size]; exact Nat.lt_succ_self _))).trans xa1
  have xc1 : (Lib.bytesWorld (Lib.bytesWorld w.drew 5 ⟨#[c0, c1, c2, c3, c4, c5, c6, c7]⟩) 5 ⟨#[b0, b1, b2, b3, b4, b5, b6, b7]⟩).cell? ⟨w.heap.size + 1, 1, none⟩ = some (.int .u8 b1.toNat) := by
    have h := Lib.bytesWorld_cell (Lib.bytesWorld w.drew 5 ⟨#[c0, c1, c2, c3, c4, c5, c6, c7]⟩) 5 ⟨#[b0, b1, b2, b3, b4, b5, b6, b7]⟩ 1 (Nat.le_of_ble_eq_true rfl)
    rw [Lib.bytesWorld_size] at h
    exact h
  have xa2 : (Lib.bytesWorld w.drew 5 ⟨#[b0, b1, b2, b3, b4, b5, b6, b7]⟩).cell? ⟨w.heap.size, 2, none⟩ = some (.int .u8 b2.toNat) := Lib.bytesWorld_cell w.drew 5 ⟨#[b0, b1, b2, b3, b4, b5, b6, b7]⟩ 2 (Nat.le_of_ble_eq_true rfl)
  have xb2 : (Lib.bytesWorld (Lib.bytesWorld w.drew 5 ⟨#[b0, b1, b2, b3, b4, b5, b6, b7]⟩) 5 ⟨#[c0, c1, c2, c3, c4, c5, c6, c7]⟩).cell? ⟨w.heap.size, 2, none⟩ = some (.int .u8 b2.toNat) := (World.cell?_of_block (Lib.bytesWorld_at_old _ 5 ⟨#[c0, c1, c2, c3, c4, c5, c6, c7]⟩ _ (by rw [Lib.bytesWorld_size]; exact Nat.lt_succ_self _))).trans xa2
  have xc2 : (Lib.bytesWorld (Lib.bytesWorld w.drew 5 ⟨#[c0, c1, c2, c3, c4, c5, c6, c7]⟩) 5 ⟨#[b0, b1, b2, b3, b4, b5, b6, b7]⟩).cell? ⟨w.heap.size + 1, 2, none⟩ = some (.int .u8 b2.toNat) := by
    have h := Lib.bytesWorld_cell (Lib.bytesWorld w.drew 5 ⟨#[c0, c1, c2, c3, c4, c5, c6, c7]⟩) 5 ⟨#[b0, b1, b2, b3, b4, b5, b6, b7]⟩ 2 (Nat.le_of_ble_eq_true rfl)
    rw [Lib.bytesWorld_size] at h
    exact h
  have xa3 : (Lib.bytesWorld w.drew 5 ⟨#[b0, b1, b2, b3, b4, b5, b6, b7]⟩).cell? ⟨w.heap.size, 3, none⟩ = some (.int .u8 b3.toNat) := Lib.bytesWorld_cell w.drew 5 ⟨#[b0, b1, b2, b3, b4, b5, b6, b7]⟩ 3 (Nat.le_of_ble_eq_true rfl)
  have xb3 : (Lib.bytesWorld (Lib.bytesWorld w.drew 5 ⟨#[b0, b1, b2, b3, b4, b5, b6, b7]⟩) 5 ⟨#[c0, c1, c2, c3, c4, c5, c6, c7]⟩).cell? ⟨w.heap.size, 3, none⟩ = some (.int .u8 b3.toNat) := (World.cell?_of_block (Lib.bytesWorld_at_old _ 5 ⟨#[c0, c1, c2, c3, c4, c5, c6, c7]⟩ _ (by rw [Lib.bytesWorld_size]; exact Nat.lt_succ_self _))).trans xa3
  have xc3 : (Lib.bytesWorld (Lib.bytesWorld w.drew 5 ⟨#[c0, c1, c2, c3, c4, c5, c6, c7]⟩) 5 ⟨#[b0, b1, b2, b3, b4, b5, b6, b7]⟩).cell? ⟨w.heap.size + 1, 3, none⟩ = some (.int .u8 b3.toNat) := by
    have h := Lib.bytesWorld_cell (Lib.bytesWorld w.drew 5 ⟨#[c0, c1, c2, c3, c4, c5, c6, c7]⟩) 5 ⟨#[b0, b1, b2, b3, b4, b5, b6, b7]⟩ 3 (Nat.le_of_ble_eq_true rfl)
    rw [Lib.bytesWorld_size] at h
    exact h
  have xa4 : (Lib.bytesWorld w.drew 5 ⟨#[b0, b1, b2, b3, b4, b5, b6, b7]⟩).cell? ⟨w.heap.size, 4, none⟩ = some (.int .u8 b4.toNat) := Lib.bytesWorld_cell w.drew 5 ⟨#[b0, b1, b2, b3, b4, b5, b6, b7]⟩ 4 (Nat.le_of_ble_eq_true rfl)
  have xb4 : (Lib.bytesWorld (Lib.bytesWorld w.drew 5 ⟨#[b0, b1, b2, b3, b4, b5, b6, b7]⟩) 5 ⟨#[c0, c1, c2, c3, c4, c5, c6, c7]⟩).cell? ⟨w.heap.size, 4, none⟩ = some (.int .u8 b4.toNat) := (World.cell?_of_block (Lib.bytesWorld_at_old _ 5 ⟨#[c0, c1, c2, c3, c4, c5, c6, c7]⟩ _ (by rw [Lib.bytesWorld_size]; exact Nat.lt_succ_self _))).trans xa4
  have xc4 : (Lib.bytesWorld (Lib.bytesWorld w.drew 5 ⟨#[c0, c1, c2, c3, c4, c5, c6, c7]⟩) 5 ⟨#[b0, b1, b2, b3, b4, b5, b6, b7]⟩).cell? ⟨w.heap.size + 1, 4, none⟩ = some (.int .u8 b4.toNat) := by
    have h := Lib.bytesWorld_cell (Lib.bytesWorld w.drew 5 ⟨#[c0, c1, c2, c3, c4, c5, c6, c7]⟩) 5 ⟨#[b0, b1, b2, b3, b4, b5, b6, b7]⟩ 4 (Nat.le_of_ble_eq_true rfl)
    rw [Lib.bytesWorld_size] at h
    exact h
  have xa5 : (Lib.bytesWorld w.drew 5 ⟨#[b0, b1, b2, b3, b4, b5, b6, b7]⟩).cell? ⟨w.heap.size, 5, none⟩ = some (.int .u8 b5.toNat) := Lib.bytesWorld_cell w.drew 5 ⟨#[b0, b1, b2, b3, b4, b5, b6, b7]⟩ 5 (Nat.le_of_ble_eq_true rfl)
  have xb5 : (Lib.bytesWorld (Lib.bytesWorld w.drew 5 ⟨#[b0, b1, b2, b3, b4, b5, b6, b7]⟩) 5 ⟨#[c0, c1, c2, c3, c4, c5, c6, c7]⟩).cell? ⟨w.heap.size, 5, none⟩ = some (.int .u8 b5.toNat) := (World.cell?_of_block (Lib.bytesWorld_at_old _ 5 ⟨#[c0, c1, c2, c3, c4, c5, c6, c7]⟩ _ (by rw [Lib.bytesWorld_size]; exact Nat.lt_succ_self _))).trans xa5
  have xc5 : (Lib.bytesWorld (Lib.bytesWorld w.drew 5 ⟨#[c0, c1, c2, c3, c4, c5, c6, c7]⟩) 5 ⟨#[b0, b1, b2, b3, b4, b5, b6, b7]⟩).cell? ⟨w.heap.size + 1, 5, none⟩ = some (.int .u8 b5.toNat) := by
    have h := Lib.bytesWorld_cell (Lib.bytesWorld w.drew 5 ⟨#[c0, c1, c2, c3, c4, c5, c6, c7]⟩) 5 ⟨#[b0, b1, b2, b3, b4, b5, b6, b7]⟩ 5 (Nat.le_of_ble_eq_true rfl)
    rw [Lib.bytesWorld_size] at h
    exact h
  have xa6 : (Lib.bytesWorld w.drew 5 ⟨#[b0, b1, b2, b3, b4, b5, b6, b7]⟩).cell? ⟨w.heap.size, 6, none⟩ = some (.int .u8 b6.toNat) := Lib.bytesWorld_cell w.drew 5 ⟨#[b0, b1, b2, b3, b4, b5, b6, b7]⟩ 6 (Nat.le_of_ble_eq_true rfl)
  have xb6 : (Lib.bytesWorld (Lib.bytesWorld w.drew 5 ⟨#[b0, b1, b2, b3, b4, b5, b6, b7]⟩) 5 ⟨#[c0, c1, c2, c3, c4, c5, c6, c7]⟩).cell? ⟨w.heap.size, 6, none⟩ = some (.int .u8 b6.toNat) := (World.cell?_of_block (Lib.bytesWorld_at_old _ 5 ⟨#[c0, c1, c2, c3, c4, c5, c6, c7]⟩ _ (by rw [Lib.bytesWorld_size]; exact Nat.lt_succ_self _))).trans xa6
  have xc6 : (Lib.bytesWorld (Lib.bytesWorld w.drew 5 ⟨#[c0, c1, c2, c3, c4, c5, c6, c7]⟩) 5 ⟨#[b0, b1, b2, b3, b4, b5, b6, b7]⟩).cell? ⟨w.heap.size + 1, 6, none⟩ = some (.int .u8 b6.toNat) := by
    have h := Lib.bytesWorld_cell (Lib.bytesWorld w.drew 5 ⟨#[c0, c1, c2, c3, c4, c5, c6, c7]⟩) 5 ⟨#[b0, b1, b2, b3, b4, b5, b6, b7]⟩ 6 (Nat.le_of_ble_eq_true rfl)
    rw [Lib.bytesWorld_size] at h
    exact h
  have xa7 : (Lib.bytesWorld w.drew 5 ⟨#[b0, b1, b2, b3, b4, b5, b6, b7]⟩).cell? ⟨w.heap.size, 7, none⟩ = some (.int .u8 b7.toNat) := Lib.bytesWorld_cell w.drew 5 ⟨#[b0, b1, b2, b3, b4, b5, b6, b7]⟩ 7 (Nat.le_of_ble_eq_true rfl)
  have xb7 : (Lib.bytesWorld (Lib.bytesWorld w.drew 5 ⟨#[b0, b1, b2, b3, b4, b5, b6, b7]⟩) 5 ⟨#[c0, c1, c2, c3, c4, c5, c6, c7]⟩).cell? ⟨w.heap.size, 7, none⟩ = some (.int .u8 b7.toNat) := (World.cell?_of_block (Lib.bytesWorld_at_old _ 5 ⟨#[c0, c1, c2, c3, c4, c5, c6, c7]⟩ _ (by rw [Lib.bytesWorld_size]; exact Nat.lt_succ_self _))).trans xa7
  have xc7 : (Lib.bytesWorld (Lib.bytesWorld w.drew 5 ⟨#[c0, c1, c2, c3, c4, c5, c6, c7]⟩) 5 ⟨#[b0, b1, b2, b3, b4, b5, b6, b7]⟩).cell? ⟨w.heap.size + 1, 7, none⟩ = some (.int .u8 b7.toNat) := by
    have h := Lib.bytesWorld_cell (Lib.bytesWorld w.drew 5 ⟨#[c0, c1, c2, c3, c4, c5, c6, c7]⟩) 5 ⟨#[b0, b1, b2, b3, b4, b5, b6, b7]⟩ 7 (Nat.le_of_ble_eq_true rfl)
    rw [Lib.bytesWorld_size] at h
    exact h
  have ya0 : (Lib.bytesWorld w.drew 5 ⟨#[c0, c1, c2, c3, c4, c5, c6, c7]⟩).cell? ⟨w.heap.size, 0, none⟩ = some (.int .u8 c0.toNat) := Lib.bytesWorld_cell w.drew 5 ⟨#[c0, c1, c2, c3, c4, c5, c6, c7]⟩ 0 (Nat.le_of_ble_eq_true rfl)
  have yb0 : (Lib.bytesWorld (Lib.bytesWorld w.drew 5 ⟨#[c0, c1, c2, c3, c4, c5, c6, c7]⟩) 5 ⟨#[b0, b1, b2, b3, b4, b5, b6, b7]⟩).cell? ⟨w.heap.size, 0, none⟩ = some (.int .u8 c0.toNat) := (World.cell?_of_block (Lib.bytesWorld_at_old _ 5 ⟨#[b0, b1, b2, b3, b4, b5, b6, b7]⟩ _ (by rw [Lib.bytesWorld_size]; exact Nat.lt_succ_self _))).trans ya0
  have yc0 : (Lib.bytesWorld (Lib.bytesWorld w.drew 5 ⟨#[b0, b1, b2, b3, b4, b5, b6, b7]⟩) 5 ⟨#[c0, c1, c2, c3, c4, c5, c6, c7]⟩).cell? ⟨w.heap.size + 1, 0, none⟩ = some (.int .u8 c0.toNat) := by
    have h := Lib.bytesWorld_cell (Lib.bytesWorld w.drew 5 ⟨#[b0, b1, b2, b3, b4, b5, b6, b7]⟩) 5 ⟨#[c0, c1, c2, c3, c4, c5, c6, c7]⟩ 0 (Nat.le_of_ble_eq_true rfl)
    rw [Lib.bytesWorld_size] at h
    exact h
  have ya1 : (Lib.bytesWorld w.drew 5 ⟨#[c0, c1, c2, c3, c4, c5, c6, c7]⟩).cell? ⟨w.heap.size, 1, none⟩ = some (.int .u8 c1.toNat) := Lib.bytesWorld_cell w.drew 5 ⟨#[c0, c1, c2, c3, c4, c5, c6, c7]⟩ 1 (Nat.le_of_ble_eq_true rfl)
  have yb1 : (Lib.bytesWorld (Lib.bytesWorld w.drew 5 ⟨#[c0, c1, c2, c3, c4, c5, c6, c7]⟩) 5 ⟨#[b0, b1, b2, b3, b4, b5, b6, b7]⟩).cell? ⟨w.heap.size, 1, none⟩ = some (.int .u8 c1.toNat) := (World.cell?_of_block (Lib.bytesWorld_at_old _ 5 ⟨#[b0, b1, b2, b3, b4, b5, b6, b7]⟩ _ (by rw [Lib.bytesWorld_size]; exact Nat.lt_succ_self _))).trans ya1
  have yc1 : (Lib.bytesWorld (Lib.bytesWorld w.drew 5 ⟨#[b0, b1, b2, b3, b4, b5, b6, b7]⟩) 5 ⟨#[c0, c1, c2, c3, c4, c5, c6, c7]⟩).cell? ⟨w.heap.size + 1, 1, none⟩ = some (.int .u8 c1.toNat) := by
    have h := Lib.bytesWorld_cell (Lib.bytesWorld w.drew 5 ⟨#[b0, b1, b2, b3, b4, b5, b6, b7]⟩) 5 ⟨#[c0, c1, c2, c3, c4, c5, c6, c7]⟩ 1 (Nat.le_of_ble_eq_true rfl)
    rw [Lib.bytesWorld_size] at h
    exact h
  have ya2 : (Lib.bytesWorld w.drew 5 ⟨#[c0, c1, c2, c3, c4, c5, c6, c7]⟩).cell? ⟨w.heap.size, 2, none⟩ = some (.int .u8 c2.toNat) := Lib.bytesWorld_cell w.drew 5 ⟨#[c0, c1, c2, c3, c4, c5, c6, c7]⟩ 2 (Nat.le_of_ble_eq_true rfl)
  have yb2 : (Lib.bytesWorld (Lib.bytesWorld w.drew 5 ⟨#[c0, c1, c2, c3, c4, c5, c6, c7]⟩) 5 ⟨#[b0, b1, b2, b3, b4, b5, b6, b7]⟩).cell? ⟨w.heap.size, 2, none⟩ = some (.int .u8 c2.toNat) := (World.cell?_of_block (Lib.bytesWorld_at_old _ 5 ⟨#[b0, b1, b2, b3, b4, b5, b6, b7]⟩ _ (by rw [Lib.bytesWorld_size]; exact Nat.lt_succ_self _))).trans ya2
  have yc2 : (Lib.bytesWorld (Lib.bytesWorld w.drew 5 ⟨#[b0, b1, b2, b3, b4, b5, b6, b7]⟩) 5 ⟨#[c0, c1, c2, c3, c4, c5, c6, c7]⟩).cell? ⟨w.heap.size + 1, 2, none⟩ = some (.int .u8 c2.toNat) := by
    have h := Lib.bytesWorld_cell (Lib.bytesWorld w.drew 5 ⟨#[b0, b1, b2, b3, b4, b5, b6, b7]⟩) 5 ⟨#[c0, c1, c2, c3, c4, c5, c6, c7]⟩ 2 (Nat.le_of_ble_eq_true rfl)
    rw [Lib.bytesWorld_size] at h
    exact h
  have ya3 : (Lib.bytesWorld w.drew 5 ⟨#[c0, c1, c2, c3, c4, c5, c6, c7]⟩).cell? ⟨w.heap.size, 3, none⟩ = some (.int .u8 c3.toNat) := Lib.bytesWorld_cell w.drew 5 ⟨#[c0, c1, c2, c3, c4, c5, c6, c7]⟩ 3 (Nat.le_of_ble_eq_true rfl)
  have yb3 : (Lib.bytesWorld (Lib.bytesWorld w.drew 5 ⟨#[c0, c1, c2, c3, c4, c5, c6, c7]⟩) 5 ⟨#[b0, b1, b2, b3, b4, b5, b6, b7]⟩).cell? ⟨w.heap.size, 3, none⟩ = some (.int .u8 c3.toNat) := (World.cell?_of_block (Lib.bytesWorld_at_old _ 5 ⟨#[b0, b1, b2, b3, b4, b5, b6, b7]⟩ _ (by rw [Lib.bytesWorld_size]; exact Nat.lt_succ_self _))).trans ya3
  have yc3 : (Lib.bytesWorld (Lib.bytesWorld w.drew 5 ⟨#[b0, b1, b2, b3, b4, b5, b6, b7]⟩) 5 ⟨#[c0, c1, c2, c3, c4, c5, c6, c7]⟩).cell? ⟨w.heap.size + 1, 3, none⟩ = some (.int .u8 c3.toNat) := by
    have h := Lib.bytesWorld_cell (Lib.bytesWorld w.drew 5 ⟨#[b0, b1, b2, b3, b4, b5, b6, b7]⟩) 5 ⟨#[c0, c1, c2, c3, c4, c5, c6, c7]⟩ 3 (Nat.le_of_ble_eq_true rfl)
    rw [Lib.bytesWorld_size] at h
    exact h
  have ya4 : (Lib.bytesWorld w.drew 5 ⟨#[c0, c1, c2, c3, c4, c5, c6, c7]⟩).cell? ⟨w.heap.size, 4, none⟩ = some (.int .u8 c4.toNat) := Lib.bytesWorld_cell w.drew 5 ⟨#[c0, c1, c2, c3, c4, c5, c6, c7]⟩ 4 (Nat.le_of_ble_eq_true rfl)
  have yb4 : (Lib.bytesWorld (Lib.bytesWorld w.drew 5 ⟨#[c0, c1, c2, c3, c4, c5, c6, c7]⟩) 5 ⟨#[b0, b1, b2, b3, b4, b5, b6, b7]⟩).cell? ⟨w.heap.size, 4, none⟩ = some (.int .u8 c4.toNat) := (World.cell?_of_block (Lib.bytesWorld_at_old _ 5 ⟨#[b0, b1, b2, b3, b4, b5, b6, b7]⟩ _ (by rw [Lib.bytesWorld_size]; exact Nat.lt_succ_self _))).trans ya4
  have yc4 : (Lib.bytesWorld (Lib.bytesWorld w.drew 5 ⟨#[b0, b1, b2, b3, b4, b5, b6, b7]⟩) 5 ⟨#[c0, c1, c2, c3, c4, c5, c6, c7]⟩).cell? ⟨w.heap.size + 1, 4, none⟩ = some (.int .u8 c4.toNat) := by
    have h := Lib.bytesWorld_cell (Lib.bytesWorld w.drew 5 ⟨#[b0, b1, b2, b3, b4, b5, b6, b7]⟩) 5 ⟨#[c0, c1, c2, c3, c4, c5, c6, c7]⟩ 4 (Nat.le_of_ble_eq_true rfl)
    rw [Lib.bytesWorld_size] at h
    exact h
  have ya5 : (Lib.bytesWorld w.drew 5 ⟨#[c0, c1, c2, c3, c4, c5, c6, c7]⟩).cell? ⟨w.heap.size, 5, none⟩ = some (.int .u8 c5.toNat) := Lib.bytesWorld_cell w.drew 5 ⟨#[c0, c1, c2, c3, c4, c5, c6, c7]⟩ 5 (Nat.le_of_ble_eq_true rfl)
  have yb5 : (Lib.bytesWorld (Lib.bytesWorld w.drew 5 ⟨#[c0, c1, c2, c3, c4, c5, c6, c7]⟩) 5 ⟨#[b0, b1, b2, b3, b4, b5, b6, b7]⟩).cell? ⟨w.heap.size, 5, none⟩ = some (.int .u8 c5.toNat) := (World.cell?_of_block (Lib.bytesWorld_at_old _ 5 ⟨#[b0, b1, b2, b3, b4, b5, b6, b7]⟩ _ (by rw [Lib.bytesWorld_size]; exact Nat.lt_succ_self _))).trans ya5
  have yc5 : (Lib.bytesWorld (Lib.bytesWorld w.drew 5 ⟨#[b0, b1, b2, b3, b4, b5, b6, b7]⟩) 5 ⟨#[c0, c1, c2, c3, c4, c5, c6, c7]⟩).cell? ⟨w.heap.size + 1, 5, none⟩ = some (.int .u8 c5.toNat) := by
    have h := Lib.bytesWorld_cell (Lib.bytesWorld w.drew 5 ⟨#[b0, b1, b2, b3, b4, b5, b6, b7]⟩) 5 ⟨#[c0, c1, c2, c3, c4, c5, c6, c7]⟩ 5 (Nat.le_of_ble_eq_true rfl)
    rw [Lib.bytesWorld_size] at h
    exact h
  have ya6 : (Lib.bytesWorld w.drew 5 ⟨#[c0, c1, c2, c3, c4, c5, c6, c7]⟩).cell? ⟨w.heap.size, 6, none⟩ = some (.int .u8 c6.toNat) := Lib.bytesWorld_cell w.drew 5 ⟨#[c0, c1, c2, c3, c4, c5, c6, c7]⟩ 6 (Nat.le_of_ble_eq_true rfl)
  have yb6 : (Lib.bytesWorld (Lib.bytesWorld w.drew 5 ⟨#[c0, c1, c2, c3, c4, c5, c6, c7]⟩) 5 ⟨#[b0, b1, b2, b3, b4, b5, b6, b7]⟩).cell? ⟨w.heap.size, 6, none⟩ = some (.int .u8 c6.toNat) := (World.cell?_of_block (Lib.bytesWorld_at_old _ 5 ⟨#[b0, b1, b2, b3, b4, b5, b6, b7]⟩ _ (by rw [Lib.bytesWorld_size]; exact Nat.lt_succ_self _))).trans ya6
  have yc6 : (Lib.bytesWorld (Lib.bytesWorld w.drew 5 ⟨#[b0, b1, b2, b3, b4, b5, b6, b7]⟩) 5 ⟨#[c0, c1, c2, c3, c4, c5, c6, c7]⟩).cell? ⟨w.heap.size + 1, 6, none⟩ = some (.int .u8 c6.toNat) := by
    have h := Lib.bytesWorld_cell (Lib.bytesWorld w.drew 5 ⟨#[b0, b1, b2, b3, b4, b5, b6, b7]⟩) 5 ⟨#[c0, c1, c2, c3, c4, c5, c6, c7]⟩ 6 (Nat.le_of_ble_eq_true rfl)
    rw [Lib.bytesWorld_size] at h
    exact h
  have ya7 : (Lib.bytesWorld w.drew 5 ⟨#[c0, c1, c2, c3, c4, c5, c6, c7]⟩).cell? ⟨w.heap.size, 7, none⟩ = some (.int .u8 c7.toNat) := Lib.bytesWorld_cell w.drew 5 ⟨#[c0, c1, c2, c3, c4, c5, c6, c7]⟩ 7 (Nat.le_of_ble_eq_true rfl)
  have yb7 : (Lib.bytesWorld (Lib.bytesWorld w.drew 5 ⟨#[c0, c1, c2, c3, c4, c5, c6, c7]⟩) 5 ⟨#[b0, b1, b2, b3, b4, b5, b6, b7]⟩).cell? ⟨w.heap.size, 7, none⟩ = some (.int .u8 c7.toNat) := (World.cell?_of_block (Lib.bytesWorld_at_old _ 5 ⟨#[b0, b1, b2, b3, b4, b5, b6, b7]⟩ _ (by rw [Lib.bytesWorld_size]; exact Nat.lt_succ_self _))).trans ya7
  have yc7 : (Lib.bytesWorld (Lib.bytesWorld w.drew 5 ⟨#[b0, b1, b2, b3, b4, b5, b6, b7]⟩) 5 ⟨#[c0, c1, c2, c3, c4, c5, c6, c7]⟩).cell? ⟨w.heap.size + 1, 7, none⟩ = some (.int .u8 c7.toNat) := by
    have h := Lib.bytesWorld_cell (Lib.bytesWorld w.drew 5 ⟨#[b0, b1, b2, b3, b4, b5, b6, b7]⟩) 5 ⟨#[c0, c1, c2, c3, c4, c5, c6, c7]⟩ 7 (Nat.le_of_ble_eq_true rfl)
    rw [Lib.bytesWorld_size] at h
    exact h
  have harr := arr_any
  have heq := fun w => eq8 b0 b1 b2 b3 b4 b5 b6 b7 c0 c1 c2 c3 c4 c5 c6 c7 w
  simp only [v8] at heq
  generalize hR : decide ((⟨#[b0, b1, b2, b3, b4, b5, b6, b7]⟩ : ByteArray) = ⟨#[c0, c1, c2, c3, c4, c5, c6, c7]⟩) = R at *
  go_enter Ybaf.func51, Ybaf.ntmps51
  go_wp2_with fail
  go_region
  all_goals go_wp2_with fail
  all_goals go_ret
  all_goals exact ⟨rfl, ((Below.refl _ w).drew.trans (below_bytes w.drew 5 _)).trans ((below_bytes _ 5 _).mono (by rw [Lib.bytesWorld_size]; exact Nat.le_succ _))⟩
end Go.Proofs.YbulkdlaoFmt
