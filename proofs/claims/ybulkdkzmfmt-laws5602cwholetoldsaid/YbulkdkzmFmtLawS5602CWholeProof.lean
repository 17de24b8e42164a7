import Derived.Test.YbulkdkzmFmtLaw
import Derived.ProofKit
import Derived.OpenShut
import Derived.ShutString
import Derived.ChangeOld
import Derived.Below
import Derived.DataShut
import Derived.Deep.SlicePairs
import Derived.Stop.JoinedAt
import Derived.Stop.JoinedTold
import Derived.SevenToldRow
namespace Go.Proofs.YbulkdkzmFmt.lawS5602CWhole
open Go.ChangeShapes Go.WideShapes Go.ChangeAt Go.RowKit Go.Kit
open Go.ChangeMaps (open_string shut_string)
open Go.Extern.Stop Go.Stop Go.Extern
set_option linter.unusedVariables false
set_option linter.unusedSimpArgs false

theorem own : ownKnob Ybaf.prog.godebug = none := by kernel_rfl
theorem laidOut : laidOutB Ybaf.prog = true := by kernel_rfl
theorem cells28 : Ybaf.prog.cellsOf 28 = 2 := by kernel_rfl
theorem cells9 : Ybaf.prog.cellsOf 9 = 1 := by kernel_rfl

/-- What the walk is told of the slice that came in. -/
def IsPairs (w : World) (a : Option Addr) (len cap : Nat) (Ks Vs : Nat → ByteArray) : Prop :=
  (a = none ∧ len = 0 ∧ cap = 0) ∨
  ∃ x, a = some x ∧ ∀ i, i < len → w.cell? (x.add (i * 2)) = some (.string (Ks i)) ∧ w.cell? (x.add (i * 2 + 1)) = some (.string (Vs i)) ∧ (Ks i).size ≤ maxLen

theorem add_eq (b off j : Nat) : ((⟨b, off, none⟩ : Addr).add j) = ⟨b, off + j, none⟩ := by
  unfold Addr.add
  by_cases h : j = 0
  · simp [h]
  · simp [h]

set_option maxRecDepth 10000 in
theorem law_big (nm qn : ByteArray) (a : Option Addr) (n cap : Nat) (pick : Int) (w : World) (hn : 65536 < n) :
    Calls Ybaf.prog 3 #[.string nm, .slice a n cap, .string qn, .int .u64 pick] w fun e w' => e = .returned (.bool true) ∧ Below w.heap.size w w' := by
  have hn' : (65536 : Int) < (n : Int) := by omega
  go_enter Ybaf.func3, Ybaf.ntmps3
  go_wp2_with fail
  go_ret
  exact ⟨rfl, Below.refl _ _⟩

theorem walk (F : Interp) (nm : ByteArray) (a : Option Addr) (len cap : Nat) (Ks Vs : Nat → ByteArray) (qn : ByteArray) (pick : Int) (w : World) (hF : F.answers w.tape) (hr : IsPairs w a len cap Ks Vs) (hq : qn.size ≤ maxLen) (hp : 0 ≤ pick ∧ pick ≤ 18446744073709551615) :
    Calls Ybaf.prog 3 #[.string nm, .slice a len cap, .string qn, .int .u64 pick] w fun e w' => e = .returned (.bool true) ∧ Below w.heap.size w w' := by
  by_cases hbig : 65536 < len
  · exact law_big nm qn a len cap pick w hbig
  by_cases h0 : len = 0
  · subst h0
    exact law_any F nm qn a 0 0 0 cap pick Ks Vs w hF (by omega) (fun h => by omega) (fun j hj => by omega) (fun j hj => by omega) (fun j hj => by omega) hq hp
  rcases hr with ⟨_, e, _⟩ | ⟨x, rfl, hc⟩
  · exact absurd e h0
  have hx : x = ⟨x.block, x.off, none⟩ := by
    have h := (hc 0 (by omega)).1
    rw [show x.add (0 * 2) = x from rfl] at h
    obtain ⟨b, o, s⟩ := x
    cases s with
    | none => rfl
    | some i =>
      exfalso
      unfold World.cell? at h
      split at h <;> simp at h
  refine law_any F nm qn (some x) x.block x.off len cap pick Ks Vs w hF (by omega) (fun _ => by rw [← hx]) (fun j hj => ?_) (fun j hj => ?_) (fun j hj => (hc j hj).2.2) hq hp
  · have h := (hc j hj).1
    rw [hx, add_eq] at h
    exact h
  · have h := (hc j hj).2.1
    rw [hx, add_eq, ← Nat.add_assoc] at h
    exact h

set_option maxRecDepth 100000 in
theorem lifted (os : Os) (started : os.Started) (H : Type) (enc : TypeId × Value → H) :
    ReturnsInTold none {} Ybaf.checked os 3 .any Input.okWide ((OpenSpec.ofChange Rows.lawS5602CWholeSpec).preRow enc Ybaf.prog Ybaf.f3 [] false []) (fun F => ((OpenSpec.ofChange Rows.lawS5602CWholeSpec).at F).post enc Ybaf.prog Ybaf.f3 false true false false) (aloneAtReturn Ybaf.prog) nothingAlways := by
  refine returnsInTold_of_row (C := Ybaf.checked) (s := OpenSpec.ofChange Rows.lawS5602CWholeSpec) (by kernel_rfl) own started (by kernel_rfl) Ybaf.func3
    (OpenSpec.witness_stopped (enc := enc) (C := Ybaf.checked) false ⟨#[], #[.string ⟨#[]⟩, .slice none 0 0, .string ⟨#[]⟩, .int .u64 0], []⟩ 8 (by kernel_rfl) (by kernel_rfl) (by kernel_rfl) (by kernel_rfl)) ?_
  intro F W base args ds gs before _ hF hval0 hW _ _ _ _ _
  have hval : ∀ (j : Nat) t v, Ybaf.f3.params[j]? = some t → args[j]? = some v → Value.okWide Ybaf.prog W .any base t v := hval0
  have hW' := hW
  obtain ⟨p, q, hA0, hV, rfl, hfz, hnd⟩ := hW
  have hA : DataW.TrodAll enc Ybaf.prog W 0 (fun _ => true) true Ybaf.f3.params.toList args.toList ds p := hA0
  rw [Ybaf.params3] at hA hval
  obtain ⟨v0, vs0, d0, ds0, p0, q0, hargs, rfl, rfl, h0, r0⟩ := trodAll_cons hA
  obtain ⟨v1, vs1, d1, ds1, p1, q1, rfl, rfl, rfl, h1, r1⟩ := trodAll_cons r0
  obtain ⟨v2, vs2, d2, ds2, p2, q2, rfl, rfl, rfl, h2, r2⟩ := trodAll_cons r1
  obtain ⟨v3, vs3, d3, ds3, p3, q3, rfl, rfl, rfl, h3, r3⟩ := trodAll_cons r2
  obtain ⟨rfl, rfl, rfl⟩ := trodAll_nil r3
  obtain rfl : args = #[v0, v1, v2, v3] := by cases args; simp_all
  obtain ⟨rfl, rfl⟩ := trodVars_none hV
  obtain ⟨nm, rfl, rfl, rfl, wnm⟩ := open_string Ybaf.underlying9 (hval 0 9 v0 rfl rfl) h0
  obtain ⟨a1, len1, cap1, rfl⟩ := okWide_slice Ybaf.underlying22 (hval 1 22 v1 rfl rfl)
  obtain ⟨qn, rfl, rfl, rfl, wqn⟩ := open_string Ybaf.underlying9 (hval 2 9 v2 rfl rfl) h2
  obtain ⟨pick, rfl, rfl, rfl, wp⟩ := open_int Ybaf.underlying23 (hval 3 23 v3 rfl rfl) h3
  have k1 := h1
  have lt1 : ∀ x ∈ p1, x.block < W.heap.size := by obtain ⟨m, hm⟩ := k1; exact DataW.trod_lt m _ _ _ hm
  obtain ⟨Ks, Vs, hr⟩ : ∃ Ks Vs, IsPairs W a1 len1 cap1 Ks Vs := by
    obtain ⟨fuel, hf⟩ := h1
    rcases Deep.open_slice_pairs Ybaf.underlying22 Ybaf.underlying28 cells28 rfl rfl cells9 cells9 hf with ⟨hc, hx⟩ | ⟨a, len, cap, m, k, V0, V1, D0, D1, P0, P1, hc, _, hl, hm, hmm, hx, hall⟩
    · simp [Value.cells] at hc
      obtain ⟨rfl, rfl, rfl⟩ := hc
      exact ⟨fun _ => ⟨#[]⟩, fun _ => ⟨#[]⟩, .inl ⟨rfl, rfl, rfl⟩⟩
    · simp [Value.cells] at hc
      obtain ⟨rfl, rfl, rfl⟩ := hc
      have hlm : len1 ≤ m := by rw [hmm]; split <;> omega
      have each : ∀ i, i < len1 → ∃ s : ByteArray × ByteArray, V0 i = .string s.1 ∧ V1 i = .string s.2 ∧ s.1.size ≤ maxLen := fun i hi => by
        obtain ⟨_, _, g0, g1⟩ := hall i (by omega)
        obtain ⟨s0, e0, _, z0⟩ := DataW.trod_string Ybaf.underlying9 g0
        obtain ⟨s1, e1, _, z1⟩ := DataW.trod_string Ybaf.underlying9 g1
        simp at e0 e1
        exact ⟨(s0, s1), e0, e1, z0⟩
      obtain ⟨S, hS⟩ := Deep.choose_lt each
      refine ⟨fun i => (S i).1, fun i => (S i).2, .inr ⟨a, rfl, fun i hi => ?_⟩⟩
      obtain ⟨c0, c1, _, _⟩ := hall i (by omega)
      obtain ⟨e0, e1, z0⟩ := hS i hi
      exact ⟨by rw [c0, e0], by rw [c1, e1], z0⟩
  clear hA0 hval0
  have hp : 0 ≤ pick ∧ pick ≤ 18446744073709551615 := by
    have h' := (Lit.wf_int_iff .u64 pick).1 wp
    exact ⟨h'.1, h'.2⟩
  refine (walk F.told nm a1 len1 cap1 Ks Vs qn pick W hF hr wqn hp).mono fun e W' ⟨he, bel⟩ => ?_
  subst he
  exact ⟨_, rfl, _, _, _, [], _, [], hW', trodAll_mk1 (shut_bool Ybaf.underlying4 _), (trodAll_cons_mk (shut_string Ybaf.underlying9 wnm) (trodAll_cons_mk (Below.trod laidOut (by kernel_rfl) (of_decide_eq_true (by kernel_rfl)) k1 bel lt1) (trodAll_cons_mk (shut_string Ybaf.underlying9 wqn) (trodAll_cons_mk (shut_int Ybaf.underlying23 wp) trodAll_mk0)))), rfl, bel.frame _, fun h => by cases h⟩

theorem stopKnobs : Ybaf.pinned.checked.prog.stopKnobs = [] := by kernel_rfl
theorem quiet (os : Os) : Stop.quiet Ybaf.pinned.checked.prog os := by
  intro k hk
  rw [stopKnobs] at hk
  cases hk

theorem over : Rows.LawS5602CWholeToldSaid :=
  Claim7.holds_of_told_any 3 Ybaf.f3 _ [] [] _ _ _ (by kernel_rfl) rfl rfl rfl (show laidOutB Ybaf.pinned.checked.prog = true from laidOut) (by kernel_rfl) rfl ⟨rfl, rfl, rfl, rfl, rfl, rfl, rfl⟩ rfl rfl (by kernel_rfl) (by kernel_rfl) Ybaf.func3 (by kernel_rfl)
    (of_decide_eq_true (by kernel_rfl)) (of_decide_eq_true (by kernel_rfl)) (by kernel_rfl) rfl stopKnobs.symm (by kernel_rfl)
    (by kernel_rfl) (by kernel_rfl) (by kernel_rfl) (by kernel_rfl) (by kernel_rfl) (by kernel_rfl) (by kernel_rfl) (by kernel_rfl) (by kernel_rfl) rfl (by kernel_rfl) rfl rfl
    rfl rfl
    rfl (by kernel_rfl) (by kernel_rfl) (by kernel_rfl) (by decide) (by kernel_rfl)
    (OpenClaim.moreEntering_of (by kernel_rfl) (by kernel_rfl) (by kernel_rfl) (by kernel_rfl) (by kernel_rfl) (by kernel_rfl) (by kernel_rfl) (by kernel_rfl) (by kernel_rfl) (by kernel_rfl))
    ⟨_, WideRow.started_initial, quiet _⟩
    (fun os started _ H enc _ => lifted os started H enc)

/-- The statement. -/
theorem proved : Rows.LawS5602CWholeToldSaid := over
end Go.Proofs.YbulkdkzmFmt.lawS5602CWhole
