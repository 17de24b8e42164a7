import Derived.Test.YbulkdlaoFmtCards
import Derived.WalkKit
import Derived.WalkSpells
import Derived.WalkLawsBesides
import Derived.Handy
import Derived.BigQuiet
import Derived.Lib.QuietBelow
namespace Go.Proofs.YbulkdlaoFmt
set_option linter.unusedVariables false
set_option linter.unusedSimpArgs false
open Go.RowKit

theorem mixed : Ybaf.prog.follows .mixedOrders = true := by kernel_rfl

/-! The twelve names. -/
def nm (k : Nat) : ByteArray :=
  match k with
  | 0 => ⟨#[97]⟩
  | 1 => ⟨#[98]⟩
  | 2 => ⟨#[97, 98]⟩
  | 3 => ⟨#[110, 111, 100, 101, 45, 48, 48, 48, 49]⟩
  | 4 => ⟨#[110, 111, 100, 101, 45, 48, 48, 48, 50]⟩
  | 5 => ⟨#[110, 111, 100, 101, 45, 48, 48, 49, 48]⟩
  | 6 => ⟨#[110, 111, 100, 101, 45, 49, 48, 48, 48]⟩
  | 7 => ⟨#[110, 111, 100, 101, 45, 48, 48, 48, 48, 48, 48, 48, 49]⟩
  | 8 => ⟨#[110, 111, 100, 101, 45, 48, 48, 48, 48, 48, 48, 48, 50]⟩
  | 9 => ⟨#[120, 45, 118, 101, 114, 121, 45, 108, 111, 110, 103, 45, 110, 111, 100, 101, 45, 105, 100, 101, 110, 116, 105, 102, 105, 101, 114, 45, 48, 49]⟩
  | 10 => ⟨#[120, 45, 118, 101, 114, 121, 45, 108, 111, 110, 103, 45, 110, 111, 100, 101, 45, 105, 100, 101, 110, 116, 105, 102, 105, 101, 114, 45, 48, 50]⟩
  | _ => ⟨#[122, 122]⟩

set_option maxRecDepth 10000 in
theorem name_any (k : Nat) (hk : k < 12) (w : World) : Calls Ybaf.prog 15 #[.int .i64 k] w fun e w' => e = .returned (.string (nm k)) ∧ w' = w := by
  have h : k = 0 ∨ k = 1 ∨ k = 2 ∨ k = 3 ∨ k = 4 ∨ k = 5 ∨ k = 6 ∨ k = 7 ∨ k = 8 ∨ k = 9 ∨ k = 10 ∨ k = 11 := by omega
  rcases h with rfl | rfl | rfl | rfl | rfl | rfl | rfl | rfl | rfl | rfl | rfl | rfl <;>
  · go_enter Ybaf.func15, Ybaf.ntmps15
    go_wp2_with fail
    go_ret
    exact ⟨rfl, rfl⟩

/-! A form's parts, in the model's own words. -/
def flen (f : Int) : Int := wrap64 (bits BinOp.and IntKind.u64 (f / 1048576) 2047)
def fpre (f : Int) : Int := wrap64 (bits BinOp.and IntKind.u64 (f / 1024) 1023)
def flong (f : Int) : Int := bits BinOp.and IntKind.u64 f 2147483648
def fcut (f : Int) : Int := bits BinOp.andNot IntKind.u64 f 2147483648

theorem len_any (f : Int) (w : World) (h : 0 ≤ f) : Calls Ybaf.prog 47 #[.int .u64 f] w fun e w' => e = .returned (.int .i64 (flen f)) ∧ w' = w := by
  unfold flen
  go_enter Ybaf.func47, Ybaf.ntmps47
  go_wp2_with fail
  go_ret
  exact ⟨rfl, rfl⟩

theorem pre_any (f : Int) (w : World) (h : 0 ≤ f) : Calls Ybaf.prog 86 #[.int .u64 f] w fun e w' => e = .returned (.int .i64 (fpre f)) ∧ w' = w := by
  unfold fpre
  go_enter Ybaf.func86, Ybaf.ntmps86
  go_wp2_with fail
  go_ret
  exact ⟨rfl, rfl⟩

def fend (f : Int) : Int := wrap64 (flen f - wrap64 (bits BinOp.and IntKind.u64 f 1023))
theorem middle_any (f : Int) (w : World) (h : 0 ≤ f) : Calls Ybaf.prog 83 #[.int .u64 f] w fun e w' => e = .returned (.tuple #[.int .i64 (fpre f), .int .i64 (fend f)]) ∧ w' = w := by
  unfold fend
  go_enter Ybaf.func83, Ybaf.ntmps83
  go_wp2_with fail
  refine (pre_any f w h).mono ?_
  rintro e w1 ⟨rfl, rfl⟩
  go_wp2_with fail
  refine (len_any f _ h).mono ?_
  rintro e w2 ⟨rfl, rfl⟩
  go_wp2_with fail
  refine bodyPost_ret (v := .tuple #[.int .i64 (fpre f), .int .i64 (wrap64 (flen f - wrap64 (bits BinOp.and IntKind.u64 f 1023)))]) (by simp [results, Ybaf.results83, go_sem]) rfl ⟨rfl, rfl⟩

theorem short_any (f g : Int) (w : World) : Calls Ybaf.prog 36 #[.int .u64 f, .int .u64 g] w fun e w' => e = .returned (.bool (f == fcut g)) ∧ w' = w := by
  unfold fcut
  go_enter Ybaf.func36, Ybaf.ntmps36
  go_wp2_with fail
  go_ret
  exact ⟨rfl, rfl⟩

def cord (x y : Nat) : Int := if x < y then 1 else if y < x then 2 else 0
theorem cord_any (x y : Nat) (w : World) : Calls Ybaf.prog 35 #[.int .u64 x, .int .u64 y] w fun e w' => e = .returned (.int .u8 (cord x y)) ∧ w' = w := by
  unfold cord
  by_cases h1 : x < y
  · have h1' : (x : Int) < (y : Int) := by omega
    have h2' : ¬ (y : Int) < (x : Int) := by omega
    rw [if_pos h1]
    go_enter Ybaf.func35, Ybaf.ntmps35
    go_wp2_with fail
    go_ret
    exact ⟨rfl, rfl⟩
  · rw [if_neg h1]
    have h1' : ¬ (x : Int) < (y : Int) := by omega
    by_cases h2 : y < x
    · have h2' : (y : Int) < (x : Int) := by omega
      rw [if_pos h2]
      go_enter Ybaf.func35, Ybaf.ntmps35
      go_wp2_with fail
      go_ret
      exact ⟨rfl, rfl⟩
    · have h2' : ¬ (y : Int) < (x : Int) := by omega
      rw [if_neg h2]
      go_enter Ybaf.func35, Ybaf.ntmps35
      go_wp2_with fail
      go_ret
      exact ⟨rfl, rfl⟩
end Go.Proofs.YbulkdlaoFmt
