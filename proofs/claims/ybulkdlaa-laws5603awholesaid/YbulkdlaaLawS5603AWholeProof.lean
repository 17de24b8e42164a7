import Derived.Test.YbulkdlaaRows
import Derived.WalkKit
import Derived.ProofKit
import Derived.OpenShut
import Derived.ShutString
import Derived.ChangeOld
import Derived.Below
import Derived.DataShut
import Derived.Test.YbulkdlaaArgs
import Derived.Test.YbulkdlaaBig
import Derived.Test.YbulkdlaaLaw
namespace Go.Proofs.Ybulkdlaa.lawS5603AWhole
set_option linter.unusedVariables false
set_option linter.unusedSimpArgs false
open Go.ChangeShapes Go.WideShapes Go.ChangeAt Go.RowKit
open Go.ChangeMaps (open_string shut_string)

theorem own : ownKnob Yba.prog.godebug = none := by kernel_rfl

set_option maxRecDepth 100000 in
theorem lifted (os : Os) (started : os.Started) (H : Type) (enc : TypeId × Value → H) :
    ReturnsInHanded {} Yba.checked os 3 .any (Rows.lawS5603AWholeSpec.pre6 enc Yba.prog Yba.f3 Rows.lawS5603AWholeRow.domain false) (Rows.lawS5603AWholeSpec.post enc Yba.prog Yba.f3 false true false false) := by
  refine returnsInHanded_of_change (C := Yba.checked) own started (by kernel_rfl) Yba.func3
    (ChangeSpec.witness6 (enc := enc) (C := Yba.checked) false ⟨#[], #[.slice none 0 0, .slice none 0 0, .agg #[.int .u8 0, .string ⟨#[]⟩, .string ⟨#[]⟩], .int .u16 0], []⟩ 8 (by kernel_rfl) (by kernel_rfl) (by kernel_rfl) (by kernel_rfl)) ?_
  intro W base args ds gs before hval0 hW hcnd _
  have hval : ∀ (j : Nat) t v, Yba.f3.params[j]? = some t → args[j]? = some v → Value.okWide Yba.prog W .any base t v := hval0
  have hW' := hW
  obtain ⟨p, q, hA0, hV, rfl, hfz, hnd⟩ := hW
  have hA : DataW.TrodAll enc Yba.prog W 0 (fun _ => true) true Yba.f3.params.toList args.toList ds p := hA0
  rw [Yba.params3] at hA hval
  obtain ⟨v0, vs0, d0, ds0, p0, q0, hargs, rfl, rfl, h0, r0⟩ := trodAll_cons hA
  obtain ⟨v1, vs1, d1, ds1, p1, q1, rfl, rfl, rfl, h1, r1⟩ := trodAll_cons r0
  obtain ⟨v2, vs2, d2, ds2, p2, q2, rfl, rfl, rfl, h2, r2⟩ := trodAll_cons r1
  obtain ⟨v3, vs3, d3, ds3, p3, q3, rfl, rfl, rfl, h3, r3⟩ := trodAll_cons r2
  obtain ⟨rfl, rfl, rfl⟩ := trodAll_nil r3
  obtain rfl : args = #[v0, v1, v2, v3] := by cases args; simp_all
  obtain ⟨rfl, rfl⟩ := trodVars_none hV
  obtain ⟨a0, n0, cp0, rfl⟩ := okWide_slice Yba.underlying22 (hval 0 22 v0 rfl rfl)
  obtain ⟨a1, n1, cp1, rfl⟩ := okWide_slice Yba.underlying23 (hval 1 23 v1 rfl rfl)
  obtain ⟨cs, rfl, _⟩ := okWide_struct Yba.underlying25 (hval 2 25 v2 rfl rfl)
  obtain ⟨pick, rfl, rfl, rfl, wp⟩ := open_int Yba.underlying26 (hval 3 26 v3 rfl rfl) h3
  have k0 := h0
  have k1 := h1
  have k2 := h2
  have lt0 : ∀ x ∈ p0, x.block < W.heap.size := by obtain ⟨m, hm⟩ := k0; exact DataW.trod_lt m _ _ _ hm
  have lt1 : ∀ x ∈ p1, x.block < W.heap.size := by obtain ⟨m, hm⟩ := k1; exact DataW.trod_lt m _ _ _ hm
  have lt2 : ∀ x ∈ p2, x.block < W.heap.size := by obtain ⟨m, hm⟩ := k2; exact DataW.trod_lt m _ _ _ hm
  obtain ⟨f0, hf0⟩ := h0
  obtain ⟨b0, o0, hs, hn, hk, hA0', hsb, hheld⟩ := open_held hf0
  obtain ⟨f1, hf1⟩ := h1
  obtain ⟨b1, o1, S, hA1', hadv⟩ := open_advs hf1
  obtain ⟨f2, hf2⟩ := h2
  obtain ⟨gs, gn, gk, hcs, wgs, wgn, wgk⟩ := key_parts hf2
  obtain rfl : cs = #[.int .u8 gs, .string gn, .string gk] := by
    have : (Value.agg cs).cells.toList = cs.toList := by simp [Value.cells]
    rw [this] at hcs
    apply Array.toList_inj.1
    rw [hcs]
  have hp : 0 ≤ pick ∧ pick ≤ 65535 := by
    have h' := (Lit.wf_int_iff .u16 pick).1 wp
    exact ⟨h'.1, h'.2⟩
  have I : Inp W a0 n0 b0 o0 hs hn hk a1 n1 b1 o1 (fun j => (S j).n) (fun j => (S j).b) (fun j => (S j).a) (fun j => (S j).l) (fun j => (S j).c) (fun j => (S j).kb) (fun j => (S j).ko) (fun j => (S j).ks) :=
    { hA0 := hA0', h0 := fun j hj => (hheld j hj).1, h1 := fun j hj => (hheld j hj).2.1, h2 := fun j hj => (hheld j hj).2.2.1, hsb := hsb, hnb := fun j hj => (hheld j hj).2.2.2.1, hkb := fun j hj => (hheld j hj).2.2.2.2,
      hA1 := hA1', c0 := fun j hj => (hadv j hj).1, c1 := fun j hj => (hadv j hj).2.1, c2 := fun j hj => (hadv j hj).2.2.1, anb := fun j hj => (hadv j hj).2.2.2.1, hA2 := fun j hj => (hadv j hj).2.2.2.2.1,
      k0 := fun j hj t ht => ((hadv j hj).2.2.2.2.2 t ht).1, ksb := fun j hj t ht => ((hadv j hj).2.2.2.2.2 t ht).2 }
  clear hA0 hval0
  have walk : Calls Yba.prog 3 #[.slice a0 n0 cp0, .slice a1 n1 cp1, .agg #[.int .u8 gs, .string gn, .string gk], .int .u16 pick] W fun e w' => e = .returned (.bool true) ∧ Below W.heap.size W w' := by
    by_cases hb0 : 4096 < n0
    · exact law_big0 a0 a1 n0 n1 cp0 cp1 gs gn gk pick hb0
    by_cases hb1 : 4096 < n1
    · exact law_big1 a0 a1 n0 n1 cp0 cp1 gs gn gk pick (by omega) hb1
    exact law_any I cp0 cp1 (by omega) (by omega) gs gn gk pick wgs wgn wgk hp
  refine walk.mono fun e W' ⟨he, bel⟩ => ?_
  subst he
  exact ⟨_, rfl, _, _, _, [], _, [], hW', trodAll_mk1 (shut_bool Yba.underlying4 _), (trodAll_cons_mk (Below.trod laidOut (by kernel_rfl) (of_decide_eq_true (by kernel_rfl)) k0 bel lt0) (trodAll_cons_mk (Below.trod laidOut (by kernel_rfl) (of_decide_eq_true (by kernel_rfl)) k1 bel lt1) (trodAll_cons_mk (Below.trod laidOut (by kernel_rfl) (of_decide_eq_true (by kernel_rfl)) k2 bel lt2) (trodAll_cons_mk (shut_int Yba.underlying26 wp) trodAll_mk0)))), rfl, bel.frame _, fun h => by cases h⟩

theorem over : Rows.lawS5603AWholeRow.holds Yba.pinned (OpenSpec.ofChange Rows.lawS5603AWholeSpec) :=
  OpenClaim.holds_of_wide 3 Yba.f3 rfl rfl rfl rfl rfl rfl rfl ⟨rfl, rfl, rfl, rfl, rfl⟩ rfl rfl rfl rfl rfl (by kernel_rfl) Yba.func3 (by kernel_rfl)
    (of_decide_eq_true (by kernel_rfl)) (by unfold Func.isWrapper; first | (rw [if_pos (by decide +kernel)]; kernel_rfl) | (rw [if_neg (by decide +kernel)]; exact ⟨rfl, rfl⟩))
    (fun os started H enc _ => lifted os started H enc)

/-- ████ THE STATEMENT ████ -/
theorem proved : Rows.LawS5603AWholeSaid := over
end Go.Proofs.Ybulkdlaa.lawS5603AWhole
