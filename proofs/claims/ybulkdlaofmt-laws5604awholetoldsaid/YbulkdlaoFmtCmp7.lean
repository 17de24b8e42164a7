import Derived.Test.YbulkdlaoFmtCmp
namespace Go.Proofs.YbulkdlaoFmt
set_option linter.unusedVariables false
set_option linter.unusedSimpArgs false
open Go.RowKit

/-- The order that Compare names. -/
def ordI (b a : Bool) : Int := match b, a with
  | true, true => 4 | true, false => 1 | false, true => 2 | false, false => 3
def Ro (v v' : Nat → Nat) (r : Ending) : Prop := ∃ b a : Bool, r = .returned (.int .i64 (ordI b a)) ∧ Fin v v' b a

set_option maxRecDepth 20000 in
set_option maxHeartbeats 2000000 in
theorem Compare_any {w : World} {C g cap C' g' cap' : Nat} {ad ad' : Option Addr} {ids ids' : ByteArray} {es es' : List En} {v v' : Nat → Nat} (h : CW w C g cap ad ids es) (h' : CW w C' g' cap' ad' ids' es') (hcap : es.length ≤ cap) (hcap' : es'.length ≤ cap') (T : Two es es' v v') (hF : Frm es) (hF' : Frm es') :
    Calls Ybaf.prog 7 #[.pointer (some ⟨C, 0, none⟩), .pointer (some ⟨C', 0, none⟩)] w fun r w' => Ro v v' r ∧ Below w.heap.size w w' := by
  have hc := compare_any h h' hcap hcap' T hF hF'
  clear h h' hcap hcap' T hF hF'
  go_enter Ybaf.func7, Ybaf.ntmps7
  go_wp2_with fail
  with_reducible refine hc.mono ?_
  rintro r w2 ⟨⟨b, a, rfl, hR⟩, hb⟩
  have HR : Hid (Fin v v' b a) := hR
  clear hR
  cases b with
  | true =>
    cases a with
    | true =>
      go_wp2_with fail
      go_ret
      exact ⟨⟨true, true, rfl, HR.out⟩, hb⟩
    | false =>
      go_wp2_with fail
      go_ret
      exact ⟨⟨true, false, rfl, HR.out⟩, hb⟩
  | false =>
    cases a with
    | true =>
      go_wp2_with fail
      go_ret
      exact ⟨⟨false, true, rfl, HR.out⟩, hb⟩
    | false =>
      go_wp2_with fail
      go_ret
      exact ⟨⟨false, false, rfl, HR.out⟩, hb⟩
end Go.Proofs.YbulkdlaoFmt
