import Derived.Test.YbulkdlaoFmtLaw
import Derived.ProofKit
import Derived.OpenShut
import Derived.ShutString
import Derived.ChangeOld
import Derived.Below
import Derived.DataShut
import Derived.Stop.JoinedAt
import Derived.Stop.JoinedTold
import Derived.SevenToldRow
namespace Go.Proofs.YbulkdlaoFmt.lawS5604AWhole
open Go.ChangeShapes Go.WideShapes Go.ChangeAt Go.RowKit Go.Kit
open Go.ChangeMaps (open_string shut_string)
open Go.Extern.Stop Go.Stop Go.Extern
set_option linter.unusedVariables false
set_option linter.unusedSimpArgs false

theorem own : ownKnob Ybaf.prog.godebug = none := by kernel_rfl
theorem laidOut : laidOutB Ybaf.prog = true := by kernel_rfl

/-- What the walk is told of a slice of numbers that came in: nil, or a row of cells. -/
def IsRow (k : IntKind) (w : World) (a : Option Addr) (len cap : Nat) (zs : List Int) : Prop :=
  (a = none ∧ len = 0 ∧ cap = 0 ∧ zs = []) ∨
  ∃ x, a = some x ∧ len ≤ cap ∧ cap ≤ maxLen ∧ zs.length = cap ∧ (∀ i, i < zs.length → w.cell? (x.add i) = some (.int k (zs.getD i 0))) ∧ ∀ n ∈ zs, (Lit.int k n).wf = true

theorem add_eq (b off j : Nat) : ((⟨b, off, none⟩ : Addr).add j) = ⟨b, off + j, none⟩ := by
  unfold Addr.add
  by_cases h : j = 0
  · simp [h]
  · simp [h]

/-- A row of numbers that are not negative, as the walk reads it. -/
theorem row_nat {k : IntKind} (hk0 : k = .u8 ∨ k = .u64) {w : World} {a : Option Addr} {len cap : Nat} {zs : List Int} (h : IsRow k w a len cap zs) :
    ∃ (b o : Nat) (f : Nat → Nat), (0 < len → a = some ⟨b, o, none⟩) ∧ (∀ j, j < len → w.cell? ⟨b, o + j, none⟩ = some (.int k (f j))) ∧ len ≤ 9223372036854775807 ∧ (k = .u8 → ∀ j, f j ≤ 255) := by
  rcases h with ⟨rfl, rfl, rfl, rfl⟩ | ⟨x, rfl, hl, hm, hz, hcell, hwz⟩
  · exact ⟨0, 0, fun _ => 0, fun h => by omega, fun j hj => by omega, by omega, fun _ j => Nat.zero_le _⟩
  · have hlen : len ≤ 9223372036854775807 := by unfold maxLen at hm; omega
    by_cases h0 : len = 0
    · subst h0
      exact ⟨0, 0, fun _ => 0, fun h => by omega, fun j hj => by omega, by omega, fun _ j => Nat.zero_le _⟩
    · have hx : x = ⟨x.block, x.off, none⟩ := by
        have h := hcell 0 (by omega)
        rw [show x.add 0 = x from rfl] at h
        obtain ⟨b, o, s⟩ := x
        cases s with
        | none => rfl
        | some i =>
          exfalso
          unfold World.cell? at h
          split at h <;> simp at h
      have hnn : ∀ j, j < len → 0 ≤ zs.getD j 0 ∧ (k = .u8 → zs.getD j 0 ≤ 255) := fun j hj => by
        rw [List.getD, List.getElem?_eq_getElem (by omega : j < zs.length)]
        have h' := (Lit.wf_int_iff k _).1 (hwz _ (List.getElem_mem (by omega : j < zs.length)))
        rcases hk0 with rfl | rfl
        · exact ⟨h'.1, fun _ => h'.2⟩
        · exact ⟨h'.1, fun e => by cases e⟩
      refine ⟨x.block, x.off, fun j => if j < len then (zs.getD j 0).toNat else 0, fun _ => by rw [← hx], fun j hj => ?_, hlen, fun e j => ?_⟩
      · have h := hcell j (by omega)
        rw [hx, add_eq] at h
        rw [h]
        show some (Value.int k (zs.getD j 0)) = some (Value.int k ((if j < len then (zs.getD j 0).toNat else 0 : Nat) : Int))
        rw [if_pos hj, Int.toNat_of_nonneg (hnn j hj).1]
      · show (if j < len then (zs.getD j 0).toNat else 0) ≤ 255
        by_cases hj : j < len
        · rw [if_pos hj]
          have := (hnn j hj).2 e
          omega
        · rw [if_neg hj]; omega

theorem walk (a0 : Option Addr) (len0 cap0 : Nat) (z0 : List Int) (a1 : Option Addr) (len1 cap1 : Nat) (z1 : List Int) (a2 : Option Addr) (len2 cap2 : Nat) (z2 : List Int) (a3 : Option Addr) (len3 cap3 : Nat) (z3 : List Int) (w : World)
    (w0 : IsRow .u8 w a0 len0 cap0 z0) (w1 : IsRow .u64 w a1 len1 cap1 z1) (w2 : IsRow .u8 w a2 len2 cap2 z2) (w3 : IsRow .u64 w a3 len3 cap3 z3) :
    Calls Ybaf.prog 3 #[.slice a0 len0 cap0, .slice a1 len1 cap1, .slice a2 len2 cap2, .slice a3 len3 cap3] w fun e w' => e = .returned (.bool true) ∧ Below w.heap.size w w' := by
  by_cases hbig : 1048576 < wrap64 (wrap64 (wrap64 ((len0 : Int) + (len2 : Int)) + (len1 : Int)) + (len3 : Int))
  · exact law_big a0 a1 a2 a3 len0 len1 len2 len3 cap0 cap1 cap2 cap3 w hbig
  · obtain ⟨b0, o0, f0, p0, q0, l0, u0⟩ := row_nat (.inl rfl) w0
    obtain ⟨b1, o1, f1, p1, q1, l1, _⟩ := row_nat (.inr rfl) w1
    obtain ⟨b2, o2, f2, p2, q2, l2, u2⟩ := row_nat (.inl rfl) w2
    obtain ⟨b3, o3, f3, p3, q3, l3, _⟩ := row_nat (.inr rfl) w3
    exact law_any (I := ⟨p0, q0, p1, q1, l0, l1, u0 rfl⟩) (J := ⟨p2, q2, p3, q3, l2, l3, u2 rfl⟩) cap0 cap1 cap2 cap3 hbig

set_option maxRecDepth 100000 in
theorem lifted (os : Os) (started : os.Started) (H : Type) (enc : TypeId × Value → H) :
    ReturnsInTold none {} Ybaf.checked os 3 .any Input.okWide ((OpenSpec.ofChange Rows.lawS5604AWholeSpec).preRow enc Ybaf.prog Ybaf.f3 [] false []) (fun F => ((OpenSpec.ofChange Rows.lawS5604AWholeSpec).at F).post enc Ybaf.prog Ybaf.f3 false true false false) (aloneAtReturn Ybaf.prog) nothingAlways := by
  refine returnsInTold_of_row (C := Ybaf.checked) (s := OpenSpec.ofChange Rows.lawS5604AWholeSpec) (by kernel_rfl) own started (by kernel_rfl) Ybaf.func3
    (OpenSpec.witness_stopped (enc := enc) (C := Ybaf.checked) false ⟨#[], #[.slice none 0 0, .slice none 0 0, .slice none 0 0, .slice none 0 0], []⟩ 8 (by kernel_rfl) (by kernel_rfl) (by kernel_rfl) (by kernel_rfl)) ?_
  intro F W base args ds gs before _ hF hval0 hW _ _ _ _ _
  have hval : ∀ (j : Nat) t v, Ybaf.f3.params[j]? = some t → args[j]? = some v → Value.okWide Ybaf.prog W .any base t v := hval0
  have hW' := hW
  obtain ⟨p, q, hA0, hV, rfl, hfz, hnd⟩ := hW
  have hA : DataW.TrodAll enc Ybaf.prog W 0 (fun _ => true) true Ybaf.f3.params.toList args.toList ds p := hA0
  rw [Ybaf.params3] at hA hval
  obtain ⟨v0, vs0, d0, ds0, p0, q0, hargs, rfl, rfl, h0, r0⟩ := trodAll_cons hA
  obtain ⟨v1, vs1, d1, ds1, p1, q1, rfl, rfl, rfl, h1, r1⟩ := trodAll_cons r0
  obtain ⟨v2, vs2, d2, ds2, p2, q2, rfl, rfl, rfl, h2, r2⟩ := trodAll_cons r1
  obtain ⟨v3, vs3, d3, ds3, p3, q3, rfl, rfl, rfl, h3, r3⟩ := trodAll_cons r2
  obtain ⟨rfl, rfl, rfl⟩ := trodAll_nil r3
  obtain rfl : args = #[v0, v1, v2, v3] := by cases args; simp_all
  obtain ⟨rfl, rfl⟩ := trodVars_none hV
  obtain ⟨a0, len0, cap0, rfl⟩ := okWide_slice Ybaf.underlying22 (hval 0 22 v0 rfl rfl)
  obtain ⟨a1, len1, cap1, rfl⟩ := okWide_slice Ybaf.underlying23 (hval 1 23 v1 rfl rfl)
  obtain ⟨a2, len2, cap2, rfl⟩ := okWide_slice Ybaf.underlying22 (hval 2 22 v2 rfl rfl)
  obtain ⟨a3, len3, cap3, rfl⟩ := okWide_slice Ybaf.underlying23 (hval 3 23 v3 rfl rfl)
  have k0 := h0
  have k1 := h1
  have k2 := h2
  have k3 := h3
  have lt0 : ∀ x ∈ p0, x.block < W.heap.size := by obtain ⟨m, hm⟩ := k0; exact DataW.trod_lt m _ _ _ hm
  have lt1 : ∀ x ∈ p1, x.block < W.heap.size := by obtain ⟨m, hm⟩ := k1; exact DataW.trod_lt m _ _ _ hm
  have lt2 : ∀ x ∈ p2, x.block < W.heap.size := by obtain ⟨m, hm⟩ := k2; exact DataW.trod_lt m _ _ _ hm
  have lt3 : ∀ x ∈ p3, x.block < W.heap.size := by obtain ⟨m, hm⟩ := k3; exact DataW.trod_lt m _ _ _ hm
  obtain ⟨z0, w0⟩ : ∃ zs, IsRow .u8 W a0 len0 cap0 zs := by
    obtain ⟨fuel, hf⟩ := h0
    rcases open_ints Ybaf.underlying22 Ybaf.underlying5 (by kernel_rfl) hf with ⟨hcs, _⟩ | ⟨x, l, c, zs, hcs, _, hl, hm, hz, _, hcell, hwz⟩
    · simp [Value.cells] at hcs
      obtain ⟨rfl, rfl, rfl⟩ := hcs
      exact ⟨[], .inl ⟨rfl, rfl, rfl, rfl⟩⟩
    · simp [Value.cells] at hcs
      obtain ⟨rfl, rfl, rfl⟩ := hcs
      exact ⟨zs, .inr ⟨_, rfl, hl, hm, by simpa using hz, hcell, hwz⟩⟩
  obtain ⟨z1, w1⟩ : ∃ zs, IsRow .u64 W a1 len1 cap1 zs := by
    obtain ⟨fuel, hf⟩ := h1
    rcases open_ints Ybaf.underlying23 Ybaf.underlying27 (by kernel_rfl) hf with ⟨hcs, _⟩ | ⟨x, l, c, zs, hcs, _, hl, hm, hz, _, hcell, hwz⟩
    · simp [Value.cells] at hcs
      obtain ⟨rfl, rfl, rfl⟩ := hcs
      exact ⟨[], .inl ⟨rfl, rfl, rfl, rfl⟩⟩
    · simp [Value.cells] at hcs
      obtain ⟨rfl, rfl, rfl⟩ := hcs
      exact ⟨zs, .inr ⟨_, rfl, hl, hm, by simpa using hz, hcell, hwz⟩⟩
  obtain ⟨z2, w2⟩ : ∃ zs, IsRow .u8 W a2 len2 cap2 zs := by
    obtain ⟨fuel, hf⟩ := h2
    rcases open_ints Ybaf.underlying22 Ybaf.underlying5 (by kernel_rfl) hf with ⟨hcs, _⟩ | ⟨x, l, c, zs, hcs, _, hl, hm, hz, _, hcell, hwz⟩
    · simp [Value.cells] at hcs
      obtain ⟨rfl, rfl, rfl⟩ := hcs
      exact ⟨[], .inl ⟨rfl, rfl, rfl, rfl⟩⟩
    · simp [Value.cells] at hcs
      obtain ⟨rfl, rfl, rfl⟩ := hcs
      exact ⟨zs, .inr ⟨_, rfl, hl, hm, by simpa using hz, hcell, hwz⟩⟩
  obtain ⟨z3, w3⟩ : ∃ zs, IsRow .u64 W a3 len3 cap3 zs := by
    obtain ⟨fuel, hf⟩ := h3
    rcases open_ints Ybaf.underlying23 Ybaf.underlying27 (by kernel_rfl) hf with ⟨hcs, _⟩ | ⟨x, l, c, zs, hcs, _, hl, hm, hz, _, hcell, hwz⟩
    · simp [Value.cells] at hcs
      obtain ⟨rfl, rfl, rfl⟩ := hcs
      exact ⟨[], .inl ⟨rfl, rfl, rfl, rfl⟩⟩
    · simp [Value.cells] at hcs
      obtain ⟨rfl, rfl, rfl⟩ := hcs
      exact ⟨zs, .inr ⟨_, rfl, hl, hm, by simpa using hz, hcell, hwz⟩⟩
  clear hA0 hval0
  refine (walk a0 len0 cap0 z0 a1 len1 cap1 z1 a2 len2 cap2 z2 a3 len3 cap3 z3 W w0 w1 w2 w3).mono fun e W' ⟨he, bel⟩ => ?_
  subst he
  exact ⟨_, rfl, _, _, _, [], _, [], hW', trodAll_mk1 (shut_bool Ybaf.underlying4 _), (trodAll_cons_mk (Below.trod laidOut (by kernel_rfl) (of_decide_eq_true (by kernel_rfl)) k0 bel lt0) (trodAll_cons_mk (Below.trod laidOut (by kernel_rfl) (of_decide_eq_true (by kernel_rfl)) k1 bel lt1) (trodAll_cons_mk (Below.trod laidOut (by kernel_rfl) (of_decide_eq_true (by kernel_rfl)) k2 bel lt2) (trodAll_cons_mk (Below.trod laidOut (by kernel_rfl) (of_decide_eq_true (by kernel_rfl)) k3 bel lt3) trodAll_mk0)))), rfl, bel.frame _, fun h => by cases h⟩

theorem stopKnobs : Ybaf.pinned.checked.prog.stopKnobs = [] := by kernel_rfl
theorem quiet (os : Os) : Stop.quiet Ybaf.pinned.checked.prog os := by
  intro k hk
  rw [stopKnobs] at hk
  cases hk

theorem over : Rows.LawS5604AWholeToldSaid :=
  Claim7.holds_of_told_any 3 Ybaf.f3 "fmt.errorf" ["fmt.Sprintf, its operands' methods called"] [] _ _ _ (by kernel_rfl) rfl rfl rfl (show laidOutB Ybaf.pinned.checked.prog = true from laidOut) (by kernel_rfl) rfl ⟨rfl, rfl, rfl, rfl, rfl, rfl, rfl⟩ rfl rfl (by kernel_rfl) (by kernel_rfl) Ybaf.func3 (by kernel_rfl)
    (of_decide_eq_true (by kernel_rfl)) (of_decide_eq_true (by kernel_rfl)) (by kernel_rfl) rfl stopKnobs.symm (by kernel_rfl)
    (by kernel_rfl) (by kernel_rfl) (by kernel_rfl) (by kernel_rfl) (by kernel_rfl) (by kernel_rfl) (by kernel_rfl) (by kernel_rfl) (by kernel_rfl) rfl (by kernel_rfl) rfl rfl
    rfl rfl
    rfl (by kernel_rfl) (by kernel_rfl) (by kernel_rfl) (by decide) (by kernel_rfl)
    (OpenClaim.moreEntering_of (by kernel_rfl) (by kernel_rfl) (by kernel_rfl) (by kernel_rfl) (by kernel_rfl) (by kernel_rfl) (by kernel_rfl) (by kernel_rfl) (by kernel_rfl) (by kernel_rfl))
    ⟨_, WideRow.started_initial, quiet _⟩
    (fun os started _ H enc _ => lifted os started H enc)

/-- The statement. -/
theorem proved : Rows.LawS5604AWholeToldSaid := over
end Go.Proofs.YbulkdlaoFmt.lawS5604AWhole
