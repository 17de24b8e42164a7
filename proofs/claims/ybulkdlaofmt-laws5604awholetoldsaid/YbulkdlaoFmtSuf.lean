import Derived.Test.YbulkdlaoFmtForm
namespace Go.Proofs.YbulkdlaoFmt
set_option linter.unusedVariables false
set_option linter.unusedSimpArgs false
open Go.RowKit

theorem wrap_id {n : Int} (h : -9223372036854775808 ≤ n) (h' : n < 9223372036854775808) : IntKind.i64.wrap n = n := by
  have hb : IntKind.i64.bits = 64 := rfl
  have hs : IntKind.i64.signed = true := rfl
  simp only [IntKind.wrap, hb, hs, Bool.true_and]
  simp
  split <;> omega

set_option maxRecDepth 20000 in
set_option maxHeartbeats 400000 in
theorem csuf_any (a b : ByteArray) (w : World) (ha : a.size ≤ 4096) (hb : b.size ≤ 4096) :
    Calls Ybaf.prog 73 #[.string a, .string b] w fun e w' => e = .returned (.int .i64 (cp a.toList.reverse b.toList.reverse)) ∧ Below w.heap.size w w' := by
  by_cases hc : b.size < a.size
  · skip
    go_enter Ybaf.func73, Ybaf.ntmps73
    go_wp2_with fail
    go_loopw [13] (fun iv wr => ∃ i : Nat, iv = .int .i64 i ∧ i ≤ b.size ∧ Below w.heap.size w wr ∧ Hid (∀ t, t < i → a.toList.reverse[t]? = b.toList.reverse[t]?)) (fun iv _ => b.size - (intOf iv).toNat)
    case atStart => exact ⟨0, rfl, Nat.zero_le _, Below.refl _ _, fun t ht => by omega⟩
    case round =>
      obtain ⟨i, rfl, hi, hbl, hal⟩ := hrel
      by_cases hil : i < b.size
      · have h0 : (i : Int) < (b.size : Int) := by omega
        obtain ⟨p, hp⟩ : ∃ p : Nat, p = a.size - 1 - i := ⟨_, rfl⟩
        obtain ⟨q, hq⟩ : ∃ q : Nat, q = b.size - 1 - i := ⟨_, rfl⟩
        have hpi : IntKind.i64.wrap (IntKind.i64.wrap ((a.size : Int) - 1) - (i : Int)) = (p : Int) := by rw [wrap_id (n := (a.size : Int) - 1) (by omega) (by omega), wrap_id (by omega) (by omega)]; omega
        have hqi : IntKind.i64.wrap (IntKind.i64.wrap ((b.size : Int) - 1) - (i : Int)) = (q : Int) := by rw [wrap_id (n := (b.size : Int) - 1) (by omega) (by omega), wrap_id (by omega) (by omega)]; omega
        have k1 : q < b.size := by omega
        have k2 : p < a.size := by omega
        have h1 : (q : Int) < (b.size : Int) := by omega
        have h2 : (p : Int) < (a.size : Int) := by omega
        have e1 : a.toList.reverse[i]? = some (a[p]'k2) := by rw [List.getElem?_reverse (by rw [blen]; omega), blen, ← hp, bget k2]
        have e2 : b.toList.reverse[i]? = some (b[q]'k1) := by rw [List.getElem?_reverse (by rw [blen]; omega), blen, ← hq, bget k1]
        by_cases hab : a[p]'k2 = b[q]'k1
        · have hdec : (((a[p]'k2).toNat : Int) != ((b[q]'k1).toNat : Int)) = false := by rw [hab]; simp
          have HAB : Hid (a.toList.reverse[i]? = b.toList.reverse[i]?) := by show _ = _; rw [e1, e2, hab]
          clear hab e1 e2 hp hq
          go_wp2_with fail
          refine region_still (by kernel_rfl) ?_
          repeat still_step
          refine wpStill_nil ?_
          go_wp2_with fail
          go_roundw
          case rel => exact ⟨i + 1, by go_num, by omega, hbl.drew, fun t ht => by
            by_cases e : t = i
            · rw [e]; exact HAB.out
            · exact hal.out t (by omega)⟩
          case measure => simp [intOf]; omega
        · have hne : (a[p]'k2).toNat ≠ (b[q]'k1).toNat := fun e => hab (UInt8.toNat_inj.1 e)
          have hdec : (((a[p]'k2).toNat : Int) != ((b[q]'k1).toNat : Int)) = true := by simp; omega
          have HR : Hid (cp a.toList.reverse b.toList.reverse = i) := cp_eq _ _ i (by rw [List.length_reverse, blen]; omega) (by rw [List.length_reverse, blen]; omega) hal.out (.inr (.inr (by rw [e1, e2]; simpa using hab)))
          clear hab hne e1 e2 hp hq
          go_wp2_with fail
          refine region_still (by kernel_rfl) ?_
          repeat still_step
          refine wpStill_nil ?_
          go_wp2_with fail
          go_ret
          exact ⟨by rw [HR.out]; rfl, hbl.drew⟩
      · have h1 : ¬ (i : Int) < (b.size : Int) := by omega
        have HR : Hid (cp a.toList.reverse b.toList.reverse = b.size) := cp_eq _ _ b.size (by rw [List.length_reverse, blen]; omega) (by rw [List.length_reverse, blen]; omega) (fun t ht => hal.out t (by omega)) (by rw [List.length_reverse, List.length_reverse, blen, blen]; omega)
        go_wp2_with fail
        go_ret
        exact ⟨by rw [HR.out]; rfl, hbl⟩
  · skip
    go_enter Ybaf.func73, Ybaf.ntmps73
    go_wp2_with fail
    go_loopw [13] (fun iv wr => ∃ i : Nat, iv = .int .i64 i ∧ i ≤ a.size ∧ Below w.heap.size w wr ∧ Hid (∀ t, t < i → a.toList.reverse[t]? = b.toList.reverse[t]?)) (fun iv _ => a.size - (intOf iv).toNat)
    case atStart => exact ⟨0, rfl, Nat.zero_le _, Below.refl _ _, fun t ht => by omega⟩
    case round =>
      obtain ⟨i, rfl, hi, hbl, hal⟩ := hrel
      by_cases hil : i < a.size
      · have h0 : (i : Int) < (a.size : Int) := by omega
        obtain ⟨p, hp⟩ : ∃ p : Nat, p = a.size - 1 - i := ⟨_, rfl⟩
        obtain ⟨q, hq⟩ : ∃ q : Nat, q = b.size - 1 - i := ⟨_, rfl⟩
        have hpi : IntKind.i64.wrap (IntKind.i64.wrap ((a.size : Int) - 1) - (i : Int)) = (p : Int) := by rw [wrap_id (n := (a.size : Int) - 1) (by omega) (by omega), wrap_id (by omega) (by omega)]; omega
        have hqi : IntKind.i64.wrap (IntKind.i64.wrap ((b.size : Int) - 1) - (i : Int)) = (q : Int) := by rw [wrap_id (n := (b.size : Int) - 1) (by omega) (by omega), wrap_id (by omega) (by omega)]; omega
        have k1 : q < b.size := by omega
        have k2 : p < a.size := by omega
        have h1 : (q : Int) < (b.size : Int) := by omega
        have h2 : (p : Int) < (a.size : Int) := by omega
        have e1 : a.toList.reverse[i]? = some (a[p]'k2) := by rw [List.getElem?_reverse (by rw [blen]; omega), blen, ← hp, bget k2]
        have e2 : b.toList.reverse[i]? = some (b[q]'k1) := by rw [List.getElem?_reverse (by rw [blen]; omega), blen, ← hq, bget k1]
        by_cases hab : a[p]'k2 = b[q]'k1
        · have hdec : (((a[p]'k2).toNat : Int) != ((b[q]'k1).toNat : Int)) = false := by rw [hab]; simp
          have HAB : Hid (a.toList.reverse[i]? = b.toList.reverse[i]?) := by show _ = _; rw [e1, e2, hab]
          clear hab e1 e2 hp hq
          go_wp2_with fail
          refine region_still (by kernel_rfl) ?_
          repeat still_step
          refine wpStill_nil ?_
          go_wp2_with fail
          go_roundw
          case rel => exact ⟨i + 1, by go_num, by omega, hbl.drew, fun t ht => by
            by_cases e : t = i
            · rw [e]; exact HAB.out
            · exact hal.out t (by omega)⟩
          case measure => simp [intOf]; omega
        · have hne : (a[p]'k2).toNat ≠ (b[q]'k1).toNat := fun e => hab (UInt8.toNat_inj.1 e)
          have hdec : (((a[p]'k2).toNat : Int) != ((b[q]'k1).toNat : Int)) = true := by simp; omega
          have HR : Hid (cp a.toList.reverse b.toList.reverse = i) := cp_eq _ _ i (by rw [List.length_reverse, blen]; omega) (by rw [List.length_reverse, blen]; omega) hal.out (.inr (.inr (by rw [e1, e2]; simpa using hab)))
          clear hab hne e1 e2 hp hq
          go_wp2_with fail
          refine region_still (by kernel_rfl) ?_
          repeat still_step
          refine wpStill_nil ?_
          go_wp2_with fail
          go_ret
          exact ⟨by rw [HR.out]; rfl, hbl.drew⟩
      · have h1 : ¬ (i : Int) < (a.size : Int) := by omega
        have HR : Hid (cp a.toList.reverse b.toList.reverse = a.size) := cp_eq _ _ a.size (by rw [List.length_reverse, blen]; omega) (by rw [List.length_reverse, blen]; omega) (fun t ht => hal.out t (by omega)) (by rw [List.length_reverse, List.length_reverse, blen, blen]; omega)
        go_wp2_with fail
        go_ret
        exact ⟨by rw [HR.out]; rfl, hbl⟩
end Go.Proofs.YbulkdlaoFmt
