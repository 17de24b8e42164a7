import Derived.Test.YbulkdlaoFmtLeaf
import Derived.StillTailTactics
namespace Go.Proofs.YbulkdlaoFmt
set_option linter.unusedVariables false
set_option linter.unusedSimpArgs false
open Go.RowKit

theorem region_still {id : Nat} {Q : Exit → Act → World → Prop} {a : Act} {w : World} {l : List Oper} (hB : Region.lexB .any l.toArray = true)
    (h : wpStill Ybaf.prog l.toArray w.drew (fun a' => Q .normal a' w.drew) l a) : (Code.region id l.toArray true).wp Ybaf.prog Q a w :=
  wp_region_still_lit mixed hB h

/-- How many elements at their start two lists have in common. -/
def cp : List UInt8 → List UInt8 → Nat
  | x :: a, y :: b => if x = y then cp a b + 1 else 0
  | _, _ => 0

theorem cp_le : ∀ (a b : List UInt8), cp a b ≤ a.length ∧ cp a b ≤ b.length
  | [], b => by simp [cp]
  | x :: a, [] => by simp [cp]
  | x :: a, y :: b => by
    unfold cp
    have := cp_le a b
    split
    · simp; omega
    · simp

theorem cp_eq : ∀ (a b : List UInt8) (r : Nat), r ≤ a.length → r ≤ b.length → (∀ t, t < r → a[t]? = b[t]?) → (r = a.length ∨ r = b.length ∨ a[r]? ≠ b[r]?) → cp a b = r
  | [], b, r, h1, h2, h3, h4 => by simp at h1; subst h1; rfl
  | x :: a, [], r, h1, h2, h3, h4 => by simp at h2; subst h2; rfl
  | x :: a, y :: b, 0, h1, h2, h3, h4 => by
    unfold cp
    rw [if_neg]
    intro e
    rcases h4 with h | h | h
    · simp at h
    · simp at h
    · simp [e] at h
  | x :: a, y :: b, r + 1, h1, h2, h3, h4 => by
    unfold cp
    have h0 := h3 0 (by omega)
    simp at h0
    rw [if_pos h0, cp_eq a b r (by simpa using h1) (by simpa using h2) (fun t ht => by simpa using h3 (t + 1) (by omega)) (by simpa using h4)]

theorem bget {a : ByteArray} {i : Nat} (h : i < a.size) : a.toList[i]? = some (a[i]'h) := by
  rw [ByteArray.toList_eq]
  have h' : i < a.data.size := h
  rw [Array.getElem?_toList, Array.getElem?_eq_getElem h']
  rfl
theorem blen (a : ByteArray) : a.toList.length = a.size := by
  rw [ByteArray.toList_eq]; rfl

set_option maxRecDepth 20000 in
set_option maxHeartbeats 400000 in
theorem cpre_any (a b : ByteArray) (w : World) (ha : a.size ≤ 4096) (hb : b.size ≤ 4096) :
    Calls Ybaf.prog 72 #[.string a, .string b] w fun e w' => e = .returned (.int .i64 (cp a.toList b.toList)) ∧ Below w.heap.size w w' := by
  by_cases hc : b.size < a.size
  · skip
    go_enter Ybaf.func72, Ybaf.ntmps72
    go_wp2_with fail
    go_loopw [13] (fun iv wr => ∃ i : Nat, iv = .int .i64 i ∧ i ≤ b.size ∧ Below w.heap.size w wr ∧ Hid (∀ t, t < i → a.toList[t]? = b.toList[t]?)) (fun iv _ => b.size - (intOf iv).toNat)
    case atStart => exact ⟨0, rfl, Nat.zero_le _, Below.refl _ _, fun t ht => by omega⟩
    case round =>
      obtain ⟨i, rfl, hi, hbl, hal⟩ := hrel
      by_cases hil : i < b.size
      · have h1 : (i : Int) < (b.size : Int) := by omega
        have h2 : (i : Int) < (a.size : Int) := by omega
        have h0 : (0 : Int) ≤ (i : Int) := by omega
        have k1 : i < b.size := by omega
        have k2 : i < a.size := by omega
        by_cases hab : a[i]'k2 = b[i]'k1
        · have hdec : (((a[i]'k2).toNat : Int) != ((b[i]'k1).toNat : Int)) = false := by rw [hab]; simp
          have HAB : Hid (a.toList[i]? = b.toList[i]?) := by show _ = _; rw [bget k2, bget k1, hab]
          clear hab
          go_wp2_with fail
          refine region_still (by kernel_rfl) ?_
          repeat still_step
          refine wpStill_nil ?_
          go_wp2_with fail
          go_roundw
          case rel => exact ⟨i + 1, by go_num, by omega, hbl.drew, fun t ht => by
            by_cases e : t = i
            · rw [e]; exact HAB.out
            · exact hal.out t (by omega)⟩
          case measure => simp [intOf]; omega
        · have hne : (a[i]'k2).toNat ≠ (b[i]'k1).toNat := fun e => hab (UInt8.toNat_inj.1 e)
          have hdec : (((a[i]'k2).toNat : Int) != ((b[i]'k1).toNat : Int)) = true := by simp; omega
          have HR : Hid (cp a.toList b.toList = i) := cp_eq _ _ i (by rw [blen]; omega) (by rw [blen]; omega) hal.out (.inr (.inr (by rw [bget k2, bget k1]; simpa using hab)))
          clear hab hne
          go_wp2_with fail
          refine region_still (by kernel_rfl) ?_
          repeat still_step
          refine wpStill_nil ?_
          go_wp2_with fail
          go_ret
          exact ⟨by rw [HR.out]; rfl, hbl.drew⟩
      · have h1 : ¬ (i : Int) < (b.size : Int) := by omega
        have HR : Hid (cp a.toList b.toList = b.size) := cp_eq _ _ b.size (by rw [blen]; omega) (by rw [blen]; omega) (fun t ht => hal.out t (by omega)) (by rw [blen, blen]; omega)
        go_wp2_with fail
        go_ret
        exact ⟨by rw [HR.out]; rfl, hbl⟩
  · skip
    go_enter Ybaf.func72, Ybaf.ntmps72
    go_wp2_with fail
    go_loopw [13] (fun iv wr => ∃ i : Nat, iv = .int .i64 i ∧ i ≤ a.size ∧ Below w.heap.size w wr ∧ Hid (∀ t, t < i → a.toList[t]? = b.toList[t]?)) (fun iv _ => a.size - (intOf iv).toNat)
    case atStart => exact ⟨0, rfl, Nat.zero_le _, Below.refl _ _, fun t ht => by omega⟩
    case round =>
      obtain ⟨i, rfl, hi, hbl, hal⟩ := hrel
      by_cases hil : i < a.size
      · have h1 : (i : Int) < (b.size : Int) := by omega
        have h2 : (i : Int) < (a.size : Int) := by omega
        have h0 : (0 : Int) ≤ (i : Int) := by omega
        have k1 : i < b.size := by omega
        have k2 : i < a.size := by omega
        by_cases hab : a[i]'k2 = b[i]'k1
        · have hdec : (((a[i]'k2).toNat : Int) != ((b[i]'k1).toNat : Int)) = false := by rw [hab]; simp
          have HAB : Hid (a.toList[i]? = b.toList[i]?) := by show _ = _; rw [bget k2, bget k1, hab]
          clear hab
          go_wp2_with fail
          refine region_still (by kernel_rfl) ?_
          repeat still_step
          refine wpStill_nil ?_
          go_wp2_with fail
          go_roundw
          case rel => exact ⟨i + 1, by go_num, by omega, hbl.drew, fun t ht => by
            by_cases e : t = i
            · rw [e]; exact HAB.out
            · exact hal.out t (by omega)⟩
          case measure => simp [intOf]; omega
        · have hne : (a[i]'k2).toNat ≠ (b[i]'k1).toNat := fun e => hab (UInt8.toNat_inj.1 e)
          have hdec : (((a[i]'k2).toNat : Int) != ((b[i]'k1).toNat : Int)) = true := by simp; omega
          have HR : Hid (cp a.toList b.toList = i) := cp_eq _ _ i (by rw [blen]; omega) (by rw [blen]; omega) hal.out (.inr (.inr (by rw [bget k2, bget k1]; simpa using hab)))
          clear hab hne
          go_wp2_with fail
          refine region_still (by kernel_rfl) ?_
          repeat still_step
          refine wpStill_nil ?_
          go_wp2_with fail
          go_ret
          exact ⟨by rw [HR.out]; rfl, hbl.drew⟩
      · have h1 : ¬ (i : Int) < (a.size : Int) := by omega
        have HR : Hid (cp a.toList b.toList = a.size) := cp_eq _ _ a.size (by rw [blen]; omega) (by rw [blen]; omega) (fun t ht => hal.out t (by omega)) (by rw [blen, blen]; omega)
        go_wp2_with fail
        go_ret
        exact ⟨by rw [HR.out]; rfl, hbl⟩
end Go.Proofs.YbulkdlaoFmt
