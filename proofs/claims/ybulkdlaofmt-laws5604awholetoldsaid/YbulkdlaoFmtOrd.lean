import Derived.Test.YbulkdlaoFmtSame
namespace Go.Proofs.YbulkdlaoFmt
set_option linter.unusedVariables false
set_option linter.unusedSimpArgs false
open Go.RowKit
open Go.Sort (grow)

set_option maxRecDepth 20000 in
set_option maxHeartbeats 2000000 in
theorem order_any {w : World} {C g cap C' g' cap' : Nat} {a a' : Option Addr} {ids ids' : ByteArray} {es es' : List En} (h : CW w C g cap a ids es) (h' : CW w C' g' cap' a' ids' es') {i j p : Nat} {x y : En} (hx : es[i]? = some x) (hy : es'[j]? = some y) (hp : p < 13) (fx : x.f = fo p x.k) (fy : y.f = fo p y.k) :
    Calls Ybaf.prog 52 #[.pointer (some ⟨C, 0, none⟩), .pointer (some ⟨C', 0, none⟩), .int .i64 i, .int .i64 j, .bool true] w fun r w' => r = .returned (.int .i64 (sgn (rk x.k) (rk y.k))) ∧ Below w.heap.size w w' := by
  have hcS := sameid_any h h' hx hy hp fx fy
  by_cases hk : x.k = y.k
  · rw [decide_eq_true hk] at hcS
    have hsg : sgn (rk x.k) (rk y.k) = 0 := by rw [hk]; simp [sgn]
    rw [hsg]
    clear hsg h h' fx fy hx hy hk
    go_enter Ybaf.func52, Ybaf.ntmps52
    go_wp2_with fail
    with_reducible refine hcS.mono ?_
    rintro r2 w2 ⟨rfl, hb2⟩
    go_wp2_with fail
    go_ret
    exact ⟨rfl, hb2⟩
  · rw [decide_eq_false hk] at hcS
    have hcc := fun W => cmp_any (nm x.k) (nm y.k) W
    rw [cid_cmp h hx (h'.ok y (List.mem_of_getElem? hy)).k] at hcc
    have h1 := fun (W : World) (hb : Below w.heap.size w W) => cid_any (h.below hb) hx
    have h2 := fun (W : World) (hb : Below w.heap.size w W) => cid_any (h'.below hb) hy
    clear h h' fx fy hx hy hk
    go_enter Ybaf.func52, Ybaf.ntmps52
    go_wp2_with fail
    with_reducible refine hcS.mono ?_
    rintro r2 w2 ⟨rfl, hb2⟩
    go_wp2_with fail
    with_reducible refine (h1 _ hb2).mono ?_
    rintro r3 w3 ⟨rfl, hb3⟩
    have hb3' := hb2.trans (hb3.mono hb2.size)
    go_wp2_with fail
    with_reducible refine (h2 _ hb3').mono ?_
    rintro r4 w4 ⟨rfl, hb4⟩
    have hb4' := hb3'.trans (hb4.mono hb3'.size)
    go_wp2_with fail
    with_reducible refine (hcc _).mono ?_
    rintro r5 w5 ⟨rfl, rfl⟩
    go_wp2_with fail
    go_ret
    exact ⟨rfl, hb4'⟩
end Go.Proofs.YbulkdlaoFmt
