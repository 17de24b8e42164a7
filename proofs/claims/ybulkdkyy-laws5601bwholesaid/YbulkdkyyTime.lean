import Derived.Test.YbulkdkyyRows
import Derived.WalkKit
import Derived.WalkSpells
import Derived.WalkLawsBesides
import Derived.Handy
import Derived.Laws.BitsAllLaws
namespace Go.Proofs.Ybulkdkyy
set_option linter.unusedVariables false
set_option linter.unusedSimpArgs false
open Go.RowKit

/-! the bits of a time -/
theorem and_mask (n : Int) (h0 : 0 ≤ n) (h1 : n < 1000000000) : bits BinOp.and IntKind.u64 n 1073741823 = n := by
  rw [u64_and n 1073741823 h0 (by omega) (by decide) (by decide)]
  have e : (1073741823 : Int).toNat = 2 ^ 30 - 1 := by decide
  rw [e, Nat.and_two_pow_sub_one_eq_mod]
  omega

theorem and_top (n : Int) (h0 : 0 ≤ n) (h1 : n < 1000000000) : bits BinOp.and IntKind.u64 n 9223372036854775808 = 0 := by
  rw [u64_and n 9223372036854775808 h0 (by omega) (by decide) (by decide)]
  have e : (9223372036854775808 : Int).toNat = 2 ^ 63 := by decide
  rw [e, nat_bit]
  omega

theorem nat_and_high (a k : Nat) (h : a < 2 ^ 30) : a &&& (2 ^ 30 * k) = 0 := by
  apply Nat.eq_of_testBit_eq
  intro j
  rw [Nat.testBit_and, Nat.testBit_two_pow_mul, Nat.zero_testBit]
  by_cases hj : 30 ≤ j
  · have : a.testBit j = false := Nat.testBit_lt_two_pow (Nat.lt_of_lt_of_le h (Nat.pow_le_pow_right (by decide) hj))
    simp [this]
  · simp [hj]

theorem andNot_mask (n : Int) (h0 : 0 ≤ n) (h1 : n < 1000000000) : bits BinOp.andNot IntKind.u64 n 1073741823 = 0 := by
  rw [u64_andNot n 1073741823 h0 (by omega) (by decide) (by decide)]
  have e : 18446744073709551615 - (1073741823 : Int).toNat = 2 ^ 30 * 17179869183 := by decide
  rw [e, nat_and_high _ _ (by omega)]
  rfl

theorem or_zero (n : Int) (h0 : 0 ≤ n) (h1 : n < 1000000000) : bits BinOp.or IntKind.u64 0 n = n := by
  rw [u64_or 0 n (by decide) (by decide) h0 (by omega)]
  simp
  omega

set_option maxHeartbeats 400000 in
theorem nsec_any (b o : Nat) (n : Int) (w : World) (h0 : 0 ≤ n) (h1 : n < 1000000000) (hc : w.cell? ⟨b, o, none⟩ = some (.int .u64 n)) :
    Calls Yba.prog 23 #[.pointer (some ⟨b, o, none⟩)] w fun e w' => e = .returned (.int .i32 n) ∧ w' = w := by
  have ha := and_mask n h0 h1
  go_enter Yba.func23, Yba.ntmps23
  go_wp2
  go_ret
  exact ⟨rfl, rfl⟩

set_option maxHeartbeats 400000 in
theorem sec_any (b o : Nat) (n s : Int) (w : World) (h0 : 0 ≤ n) (h1 : n < 1000000000) (hc : w.cell? ⟨b, o, none⟩ = some (.int .u64 n)) (hd : w.cell? ⟨b, o + 1, none⟩ = some (.int .i64 s)) :
    Calls Yba.prog 22 #[.pointer (some ⟨b, o, none⟩)] w fun e w' => e = .returned (.int .i64 s) ∧ w' = w := by
  have ha := and_top n h0 h1
  go_enter Yba.func22, Yba.ntmps22
  go_wp2
  go_ret
  exact ⟨rfl, rfl⟩

set_option maxHeartbeats 400000 in
theorem addSec_any (b o : Nat) (n s d : Int) (w : World) (h0 : 0 ≤ n) (h1 : n < 1000000000) (hs : -20000000000 ≤ s ∧ s ≤ 20000000000) (hdd : -20000000000 ≤ d ∧ d ≤ 20000000000)
    (hc : w.cell? ⟨b, o, none⟩ = some (.int .u64 n)) (hd : w.cell? ⟨b, o + 1, none⟩ = some (.int .i64 s)) (hf : w.frozen? ⟨b, o + 1, none⟩ = false) :
    Calls Yba.prog 26 #[.pointer (some ⟨b, o, none⟩), .int .i64 d] w fun e w' => e = .returned (.tuple #[]) ∧ w' = w.setCell ⟨b, o + 1, none⟩ (.int .i64 (s + d)) := by
  have ha := and_top n h0 h1
  by_cases hp : 0 < d
  · have hq : s < s + d := by omega
    go_enter Yba.func26, Yba.ntmps26
    go_wp2
    go_end0
    exact ⟨rfl, rfl⟩
  · have hq : ¬ s < s + d := by omega
    go_enter Yba.func26, Yba.ntmps26
    go_wp2
    go_end0
    exact ⟨rfl, rfl⟩

set_option maxHeartbeats 400000 in
theorem add_low (n s d q r : Int) (w : World) (h0 : 0 ≤ n) (h1 : n < 1000000000) (hs : -10000000000 ≤ s ∧ s ≤ 10000000000) (hd : -9223372036854775808 ≤ d ∧ d ≤ 9223372036854775807)
    (hq : d.tdiv 1000000000 = q) (hr : d.tmod 1000000000 = r) (hqb : -9223372037 ≤ q ∧ q ≤ 9223372037) (hrb : -1000000000 < r ∧ r < 1000000000) (c : Int) (m : Int) (hm0 : 0 ≤ m) (hm1 : m < 1000000000) (hm : Hid (n + r = m + 1000000000 * c))
    (hc : c = 0 ∨ c = 1 ∨ c = -1) :
    Calls Yba.prog 14 #[.agg #[.int .u64 n, .int .i64 s, .pointer none], .int .i64 d] w fun e w' => e = .returned (.agg #[.int .u64 m, .int .i64 (s + (q + c)), .pointer none]) ∧ Below w.heap.size w w' := by
  have b1 := andNot_mask n h0 h1
  have b2 := or_zero m hm0 hm1
  have b3 := and_top m hm0 hm1
  rcases hc with rfl | rfl | rfl
  · have hm' : n + r = m := by have := hm.out; omega
    have a1 : ¬ 1000000000 ≤ n + r := by omega
    have a2 : ¬ n + r < 0 := by omega
    go_enter Yba.func14, Yba.ntmps14
    go_wp2_with (first | (go_at_call 23; refine (nsec_any _ _ _ _ h0 h1 (by simp)).mono ?_; rintro e w' ⟨rfl, rfl⟩) | (go_at_call 26; refine (addSec_any _ _ m s _ _ hm0 hm1 (by omega) (by omega) (by simp) (by simp) (by simp)).mono ?_; rintro e w' ⟨rfl, rfl⟩))
    exact bodyPost_ret (v := .agg #[.int .u64 m, .int .i64 (s + q), .pointer none]) (by simp [results, Yba.results14, go_sem]) rfl ⟨by rw [Int.add_zero], ((Below.refl _ _).alloc (Nat.le_refl _) _).alloc (by simp) _⟩
  · have hm' : n + r = m + 1000000000 := by have := hm.out; omega
    have a1 : 1000000000 ≤ n + r := by omega
    go_enter Yba.func14, Yba.ntmps14
    go_wp2_with (first | (go_at_call 23; refine (nsec_any _ _ _ _ h0 h1 (by simp)).mono ?_; rintro e w' ⟨rfl, rfl⟩) | (go_at_call 26; refine (addSec_any _ _ m s _ _ hm0 hm1 (by omega) (by omega) (by simp) (by simp) (by simp)).mono ?_; rintro e w' ⟨rfl, rfl⟩))
    exact bodyPost_ret (v := .agg #[.int .u64 m, .int .i64 (s + (q + 1)), .pointer none]) (by simp [results, Yba.results14, go_sem]) rfl ⟨rfl, ((Below.refl _ _).alloc (Nat.le_refl _) _).alloc (by simp) _⟩
  · have hm' : n + r = m - 1000000000 := by have := hm.out; omega
    have a1 : ¬ 1000000000 ≤ n + r := by omega
    have a2 : n + r < 0 := by omega
    go_enter Yba.func14, Yba.ntmps14
    go_wp2_with (first | (go_at_call 23; refine (nsec_any _ _ _ _ h0 h1 (by simp)).mono ?_; rintro e w' ⟨rfl, rfl⟩) | (go_at_call 26; refine (addSec_any _ _ m s _ _ hm0 hm1 (by omega) (by omega) (by simp) (by simp) (by simp)).mono ?_; rintro e w' ⟨rfl, rfl⟩))
    exact bodyPost_ret (v := .agg #[.int .u64 m, .int .i64 (s + (q - 1)), .pointer none]) (by simp [results, Yba.results14, go_sem]) rfl ⟨rfl, ((Below.refl _ _).alloc (Nat.le_refl _) _).alloc (by simp) _⟩

/-- (time.Time).Add on a time without a monotonic reading, far from the ends of int64. -/
theorem add_any (n s d : Int) (w : World) (h0 : 0 ≤ n) (h1 : n < 1000000000) (hs : -10000000000 ≤ s ∧ s ≤ 10000000000) (hd : -9223372036854775808 ≤ d ∧ d ≤ 9223372036854775807) :
    Calls Yba.prog 14 #[.agg #[.int .u64 n, .int .i64 s, .pointer none], .int .i64 d] w fun e w' => e = .returned (.agg #[.int .u64 ((n + d) % 1000000000), .int .i64 (s + (n + d) / 1000000000), .pointer none]) ∧ Below w.heap.size w w' := by
  have e1 := Int.mul_tdiv_add_tmod d 1000000000
  have hr : -1000000000 < d.tmod 1000000000 ∧ d.tmod 1000000000 < 1000000000 := by
    have := Int.tmod_lt_of_pos d (b := 1000000000) (by decide)
    have := Int.lt_tmod_of_pos d (b := 1000000000) (by decide)
    omega
  generalize hq' : d.tdiv 1000000000 = q at *
  generalize hr' : d.tmod 1000000000 = r at *
  have hqb : -9223372037 ≤ q ∧ q ≤ 9223372037 := by omega
  refine (add_low n s d q r w h0 h1 hs hd hq' hr' hqb hr ((n + d) / 1000000000 - q) ((n + d) % 1000000000) (by omega) (by omega) (show Hid _ from ?_) (by omega)).mono ?_
  · show n + r = _; omega
  · rintro e w' ⟨rfl, hb⟩
    exact ⟨by rw [show q + ((n + d) / 1000000000 - q) = (n + d) / 1000000000 from by omega], hb⟩

theorem ret_bool {a b : Bool} (h : a = b) : Ending.returned (.bool a) = .returned (.bool b) := by rw [h]

set_option maxHeartbeats 400000 in
theorem before_low (n s m t : Int) (w : World) (h0 : 0 ≤ n) (h1 : n < 1000000000) (g0 : 0 ≤ m) (g1 : m < 1000000000) (r : Bool) (hr : Hid (r = decide (s < t ∨ (s = t ∧ n < m)))) :
    Calls Yba.prog 88 #[.agg #[.int .u64 n, .int .i64 s, .pointer none], .agg #[.int .u64 m, .int .i64 t, .pointer none]] w fun e w' => e = .returned (.bool r) ∧ Below w.heap.size w w' := by
  have b1 : bits BinOp.and IntKind.u64 (bits BinOp.and IntKind.u64 n m) 9223372036854775808 = 0 := by
    rw [u64_and n m h0 (by omega) g0 (by omega)]
    exact and_top _ (by omega) (by have := @Nat.and_le_left n.toNat m.toNat; omega)
  rcases Int.lt_trichotomy s t with hst | hst | hst
  · have hx : (s == t) = false := by simp; omega
    have hx3 : ¬ t < s := by omega
    have hy1 : decide (s < t) = true := by simp; omega
    have hy2 : decide (t < s) = false := by simp; omega
    · have hr' : r = true := by rw [hr.out]; simp; omega
      clear hr hx3
      subst hr'
      go_enter Yba.func88, Yba.ntmps88
      go_wp2_with (first
        | (go_at_call 22; go_call (sec_any _ _ n s _ h0 h1) as e w' ⟨rfl, rfl⟩)
        | (go_at_call 22; go_call (sec_any _ _ m t _ g0 g1) as e w' ⟨rfl, rfl⟩)
        | (go_at_call 23; go_call (nsec_any _ _ n _ h0 h1) as e w' ⟨rfl, rfl⟩)
        | (go_at_call 23; go_call (nsec_any _ _ m _ g0 g1) as e w' ⟨rfl, rfl⟩))
      go_ret
      exact ⟨ret_bool (by first | rfl | simp_all | (simp; omega)), ((Below.refl _ _).alloc (Nat.le_refl _) _).alloc (by simp) _⟩
  · have hx : (s == t) = true := by simp; omega
    have hy1 : decide (s < t) = false := by simp; omega
    have hy2 : decide (t < s) = false := by simp; omega
    rcases Int.lt_trichotomy n m with hnm | hnm | hnm
    · have hz1 : decide (n < m) = true := by simp; omega
      have hz2 : decide (m < n) = false := by simp; omega
      have hz3 : (n == m) = false := by simp; omega
      have hr' : r = true := by rw [hr.out]; simp; omega
      clear hr hnm hst
      subst hr'
      go_enter Yba.func88, Yba.ntmps88
      go_wp2_with (first
        | (go_at_call 22; go_call (sec_any _ _ n s _ h0 h1) as e w' ⟨rfl, rfl⟩)
        | (go_at_call 22; go_call (sec_any _ _ m t _ g0 g1) as e w' ⟨rfl, rfl⟩)
        | (go_at_call 23; go_call (nsec_any _ _ n _ h0 h1) as e w' ⟨rfl, rfl⟩)
        | (go_at_call 23; go_call (nsec_any _ _ m _ g0 g1) as e w' ⟨rfl, rfl⟩))
      go_ret
      exact ⟨ret_bool (by first | rfl | simp_all | (simp; omega)), ((Below.refl _ _).alloc (Nat.le_refl _) _).alloc (by simp) _⟩
    · have hz1 : decide (n < m) = false := by simp; omega
      have hz2 : decide (m < n) = false := by simp; omega
      have hz3 : (n == m) = true := by simp; omega
      have hr' : r = false := by rw [hr.out]; simp; omega
      clear hr hnm hst
      subst hr'
      go_enter Yba.func88, Yba.ntmps88
      go_wp2_with (first
        | (go_at_call 22; go_call (sec_any _ _ n s _ h0 h1) as e w' ⟨rfl, rfl⟩)
        | (go_at_call 22; go_call (sec_any _ _ m t _ g0 g1) as e w' ⟨rfl, rfl⟩)
        | (go_at_call 23; go_call (nsec_any _ _ n _ h0 h1) as e w' ⟨rfl, rfl⟩)
        | (go_at_call 23; go_call (nsec_any _ _ m _ g0 g1) as e w' ⟨rfl, rfl⟩))
      go_ret
      exact ⟨ret_bool (by first | rfl | simp_all | (simp; omega)), ((Below.refl _ _).alloc (Nat.le_refl _) _).alloc (by simp) _⟩
    · have hz1 : decide (n < m) = false := by simp; omega
      have hz2 : decide (m < n) = true := by simp; omega
      have hz3 : (n == m) = false := by simp; omega
      have hr' : r = false := by rw [hr.out]; simp; omega
      clear hr hnm hst
      subst hr'
      go_enter Yba.func88, Yba.ntmps88
      go_wp2_with (first
        | (go_at_call 22; go_call (sec_any _ _ n s _ h0 h1) as e w' ⟨rfl, rfl⟩)
        | (go_at_call 22; go_call (sec_any _ _ m t _ g0 g1) as e w' ⟨rfl, rfl⟩)
        | (go_at_call 23; go_call (nsec_any _ _ n _ h0 h1) as e w' ⟨rfl, rfl⟩)
        | (go_at_call 23; go_call (nsec_any _ _ m _ g0 g1) as e w' ⟨rfl, rfl⟩))
      go_ret
      exact ⟨ret_bool (by first | rfl | simp_all | (simp; omega)), ((Below.refl _ _).alloc (Nat.le_refl _) _).alloc (by simp) _⟩
  · have hx : (s == t) = false := by simp; omega
    have hy1 : decide (s < t) = false := by simp; omega
    have hy2 : decide (t < s) = true := by simp; omega
    · have hr' : r = false := by rw [hr.out]; simp; omega
      clear hr 
      subst hr'
      go_enter Yba.func88, Yba.ntmps88
      go_wp2_with (first
        | (go_at_call 22; go_call (sec_any _ _ n s _ h0 h1) as e w' ⟨rfl, rfl⟩)
        | (go_at_call 22; go_call (sec_any _ _ m t _ g0 g1) as e w' ⟨rfl, rfl⟩)
        | (go_at_call 23; go_call (nsec_any _ _ n _ h0 h1) as e w' ⟨rfl, rfl⟩)
        | (go_at_call 23; go_call (nsec_any _ _ m _ g0 g1) as e w' ⟨rfl, rfl⟩))
      go_ret
      exact ⟨ret_bool (by first | rfl | simp_all | (simp; omega)), ((Below.refl _ _).alloc (Nat.le_refl _) _).alloc (by simp) _⟩

set_option maxHeartbeats 400000 in
theorem after_low (n s m t : Int) (w : World) (h0 : 0 ≤ n) (h1 : n < 1000000000) (g0 : 0 ≤ m) (g1 : m < 1000000000) (r : Bool) (hr : Hid (r = decide (t < s ∨ (s = t ∧ m < n)))) :
    Calls Yba.prog 19 #[.agg #[.int .u64 n, .int .i64 s, .pointer none], .agg #[.int .u64 m, .int .i64 t, .pointer none]] w fun e w' => e = .returned (.bool r) ∧ Below w.heap.size w w' := by
  have b1 : bits BinOp.and IntKind.u64 (bits BinOp.and IntKind.u64 n m) 9223372036854775808 = 0 := by
    rw [u64_and n m h0 (by omega) g0 (by omega)]
    exact and_top _ (by omega) (by have := @Nat.and_le_left n.toNat m.toNat; omega)
  rcases Int.lt_trichotomy s t with hst | hst | hst
  · have hx : (s == t) = false := by simp; omega
    have hx3 : ¬ t < s := by omega
    have hy1 : decide (s < t) = true := by simp; omega
    have hy2 : decide (t < s) = false := by simp; omega
    · have hr' : r = false := by rw [hr.out]; simp; omega
      clear hr hx3
      subst hr'
      go_enter Yba.func19, Yba.ntmps19
      go_wp2_with (first
        | (go_at_call 22; go_call (sec_any _ _ n s _ h0 h1) as e w' ⟨rfl, rfl⟩)
        | (go_at_call 22; go_call (sec_any _ _ m t _ g0 g1) as e w' ⟨rfl, rfl⟩)
        | (go_at_call 23; go_call (nsec_any _ _ n _ h0 h1) as e w' ⟨rfl, rfl⟩)
        | (go_at_call 23; go_call (nsec_any _ _ m _ g0 g1) as e w' ⟨rfl, rfl⟩))
      go_ret
      exact ⟨ret_bool (by first | rfl | simp_all | (simp; omega)), ((Below.refl _ _).alloc (Nat.le_refl _) _).alloc (by simp) _⟩
  · have hx : (s == t) = true := by simp; omega
    have hy1 : decide (s < t) = false := by simp; omega
    have hy2 : decide (t < s) = false := by simp; omega
    rcases Int.lt_trichotomy n m with hnm | hnm | hnm
    · have hz1 : decide (n < m) = true := by simp; omega
      have hz2 : decide (m < n) = false := by simp; omega
      have hz3 : (n == m) = false := by simp; omega
      have hr' : r = false := by rw [hr.out]; simp; omega
      clear hr hnm hst
      subst hr'
      go_enter Yba.func19, Yba.ntmps19
      go_wp2_with (first
        | (go_at_call 22; go_call (sec_any _ _ n s _ h0 h1) as e w' ⟨rfl, rfl⟩)
        | (go_at_call 22; go_call (sec_any _ _ m t _ g0 g1) as e w' ⟨rfl, rfl⟩)
        | (go_at_call 23; go_call (nsec_any _ _ n _ h0 h1) as e w' ⟨rfl, rfl⟩)
        | (go_at_call 23; go_call (nsec_any _ _ m _ g0 g1) as e w' ⟨rfl, rfl⟩))
      go_ret
      exact ⟨ret_bool (by first | rfl | simp_all | (simp; omega)), ((Below.refl _ _).alloc (Nat.le_refl _) _).alloc (by simp) _⟩
    · have hz1 : decide (n < m) = false := by simp; omega
      have hz2 : decide (m < n) = false := by simp; omega
      have hz3 : (n == m) = true := by simp; omega
      have hr' : r = false := by rw [hr.out]; simp; omega
      clear hr hnm hst
      subst hr'
      go_enter Yba.func19, Yba.ntmps19
      go_wp2_with (first
        | (go_at_call 22; go_call (sec_any _ _ n s _ h0 h1) as e w' ⟨rfl, rfl⟩)
        | (go_at_call 22; go_call (sec_any _ _ m t _ g0 g1) as e w' ⟨rfl, rfl⟩)
        | (go_at_call 23; go_call (nsec_any _ _ n _ h0 h1) as e w' ⟨rfl, rfl⟩)
        | (go_at_call 23; go_call (nsec_any _ _ m _ g0 g1) as e w' ⟨rfl, rfl⟩))
      go_ret
      exact ⟨ret_bool (by first | rfl | simp_all | (simp; omega)), ((Below.refl _ _).alloc (Nat.le_refl _) _).alloc (by simp) _⟩
    · have hz1 : decide (n < m) = false := by simp; omega
      have hz2 : decide (m < n) = true := by simp; omega
      have hz3 : (n == m) = false := by simp; omega
      have hr' : r = true := by rw [hr.out]; simp; omega
      clear hr hnm hst
      subst hr'
      go_enter Yba.func19, Yba.ntmps19
      go_wp2_with (first
        | (go_at_call 22; go_call (sec_any _ _ n s _ h0 h1) as e w' ⟨rfl, rfl⟩)
        | (go_at_call 22; go_call (sec_any _ _ m t _ g0 g1) as e w' ⟨rfl, rfl⟩)
        | (go_at_call 23; go_call (nsec_any _ _ n _ h0 h1) as e w' ⟨rfl, rfl⟩)
        | (go_at_call 23; go_call (nsec_any _ _ m _ g0 g1) as e w' ⟨rfl, rfl⟩))
      go_ret
      exact ⟨ret_bool (by first | rfl | simp_all | (simp; omega)), ((Below.refl _ _).alloc (Nat.le_refl _) _).alloc (by simp) _⟩
  · have hx : (s == t) = false := by simp; omega
    have hy1 : decide (s < t) = false := by simp; omega
    have hy2 : decide (t < s) = true := by simp; omega
    · have hr' : r = true := by rw [hr.out]; simp; omega
      clear hr 
      subst hr'
      go_enter Yba.func19, Yba.ntmps19
      go_wp2_with (first
        | (go_at_call 22; go_call (sec_any _ _ n s _ h0 h1) as e w' ⟨rfl, rfl⟩)
        | (go_at_call 22; go_call (sec_any _ _ m t _ g0 g1) as e w' ⟨rfl, rfl⟩)
        | (go_at_call 23; go_call (nsec_any _ _ n _ h0 h1) as e w' ⟨rfl, rfl⟩)
        | (go_at_call 23; go_call (nsec_any _ _ m _ g0 g1) as e w' ⟨rfl, rfl⟩))
      go_ret
      exact ⟨ret_bool (by first | rfl | simp_all | (simp; omega)), ((Below.refl _ _).alloc (Nat.le_refl _) _).alloc (by simp) _⟩

set_option maxHeartbeats 400000 in
theorem equal_low (n s m t : Int) (w : World) (h0 : 0 ≤ n) (h1 : n < 1000000000) (g0 : 0 ≤ m) (g1 : m < 1000000000) (r : Bool) (hr : Hid (r = decide (s = t ∧ n = m))) :
    Calls Yba.prog 10 #[.agg #[.int .u64 n, .int .i64 s, .pointer none], .agg #[.int .u64 m, .int .i64 t, .pointer none]] w fun e w' => e = .returned (.bool r) ∧ Below w.heap.size w w' := by
  have b1 : bits BinOp.and IntKind.u64 (bits BinOp.and IntKind.u64 n m) 9223372036854775808 = 0 := by
    rw [u64_and n m h0 (by omega) g0 (by omega)]
    exact and_top _ (by omega) (by have := @Nat.and_le_left n.toNat m.toNat; omega)
  rcases Int.lt_trichotomy s t with hst | hst | hst
  · have hx : (s == t) = false := by simp; omega
    have hx3 : ¬ t < s := by omega
    have hy1 : decide (s < t) = true := by simp; omega
    have hy2 : decide (t < s) = false := by simp; omega
    · have hr' : r = false := by rw [hr.out]; simp; omega
      clear hr hx3
      subst hr'
      go_enter Yba.func10, Yba.ntmps10
      go_wp2_with (first
        | (go_at_call 22; go_call (sec_any _ _ n s _ h0 h1) as e w' ⟨rfl, rfl⟩)
        | (go_at_call 22; go_call (sec_any _ _ m t _ g0 g1) as e w' ⟨rfl, rfl⟩)
        | (go_at_call 23; go_call (nsec_any _ _ n _ h0 h1) as e w' ⟨rfl, rfl⟩)
        | (go_at_call 23; go_call (nsec_any _ _ m _ g0 g1) as e w' ⟨rfl, rfl⟩))
      go_ret
      exact ⟨ret_bool (by first | rfl | simp_all | (simp; omega)), ((Below.refl _ _).alloc (Nat.le_refl _) _).alloc (by simp) _⟩
  · have hx : (s == t) = true := by simp; omega
    have hy1 : decide (s < t) = false := by simp; omega
    have hy2 : decide (t < s) = false := by simp; omega
    rcases Int.lt_trichotomy n m with hnm | hnm | hnm
    · have hz1 : decide (n < m) = true := by simp; omega
      have hz2 : decide (m < n) = false := by simp; omega
      have hz3 : (n == m) = false := by simp; omega
      have hr' : r = false := by rw [hr.out]; simp; omega
      clear hr hnm hst
      subst hr'
      go_enter Yba.func10, Yba.ntmps10
      go_wp2_with (first
        | (go_at_call 22; go_call (sec_any _ _ n s _ h0 h1) as e w' ⟨rfl, rfl⟩)
        | (go_at_call 22; go_call (sec_any _ _ m t _ g0 g1) as e w' ⟨rfl, rfl⟩)
        | (go_at_call 23; go_call (nsec_any _ _ n _ h0 h1) as e w' ⟨rfl, rfl⟩)
        | (go_at_call 23; go_call (nsec_any _ _ m _ g0 g1) as e w' ⟨rfl, rfl⟩))
      go_ret
      exact ⟨ret_bool (by first | rfl | simp_all | (simp; omega)), ((Below.refl _ _).alloc (Nat.le_refl _) _).alloc (by simp) _⟩
    · have hz1 : decide (n < m) = false := by simp; omega
      have hz2 : decide (m < n) = false := by simp; omega
      have hz3 : (n == m) = true := by simp; omega
      have hr' : r = true := by rw [hr.out]; simp; omega
      clear hr hnm hst
      subst hr'
      go_enter Yba.func10, Yba.ntmps10
      go_wp2_with (first
        | (go_at_call 22; go_call (sec_any _ _ n s _ h0 h1) as e w' ⟨rfl, rfl⟩)
        | (go_at_call 22; go_call (sec_any _ _ m t _ g0 g1) as e w' ⟨rfl, rfl⟩)
        | (go_at_call 23; go_call (nsec_any _ _ n _ h0 h1) as e w' ⟨rfl, rfl⟩)
        | (go_at_call 23; go_call (nsec_any _ _ m _ g0 g1) as e w' ⟨rfl, rfl⟩))
      go_ret
      exact ⟨ret_bool (by first | rfl | simp_all | (simp; omega)), ((Below.refl _ _).alloc (Nat.le_refl _) _).alloc (by simp) _⟩
    · have hz1 : decide (n < m) = false := by simp; omega
      have hz2 : decide (m < n) = true := by simp; omega
      have hz3 : (n == m) = false := by simp; omega
      have hr' : r = false := by rw [hr.out]; simp; omega
      clear hr hnm hst
      subst hr'
      go_enter Yba.func10, Yba.ntmps10
      go_wp2_with (first
        | (go_at_call 22; go_call (sec_any _ _ n s _ h0 h1) as e w' ⟨rfl, rfl⟩)
        | (go_at_call 22; go_call (sec_any _ _ m t _ g0 g1) as e w' ⟨rfl, rfl⟩)
        | (go_at_call 23; go_call (nsec_any _ _ n _ h0 h1) as e w' ⟨rfl, rfl⟩)
        | (go_at_call 23; go_call (nsec_any _ _ m _ g0 g1) as e w' ⟨rfl, rfl⟩))
      go_ret
      exact ⟨ret_bool (by first | rfl | simp_all | (simp; omega)), ((Below.refl _ _).alloc (Nat.le_refl _) _).alloc (by simp) _⟩
  · have hx : (s == t) = false := by simp; omega
    have hy1 : decide (s < t) = false := by simp; omega
    have hy2 : decide (t < s) = true := by simp; omega
    · have hr' : r = false := by rw [hr.out]; simp; omega
      clear hr 
      subst hr'
      go_enter Yba.func10, Yba.ntmps10
      go_wp2_with (first
        | (go_at_call 22; go_call (sec_any _ _ n s _ h0 h1) as e w' ⟨rfl, rfl⟩)
        | (go_at_call 22; go_call (sec_any _ _ m t _ g0 g1) as e w' ⟨rfl, rfl⟩)
        | (go_at_call 23; go_call (nsec_any _ _ n _ h0 h1) as e w' ⟨rfl, rfl⟩)
        | (go_at_call 23; go_call (nsec_any _ _ m _ g0 g1) as e w' ⟨rfl, rfl⟩))
      go_ret
      exact ⟨ret_bool (by first | rfl | simp_all | (simp; omega)), ((Below.refl _ _).alloc (Nat.le_refl _) _).alloc (by simp) _⟩

end Go.Proofs.Ybulkdkyy
