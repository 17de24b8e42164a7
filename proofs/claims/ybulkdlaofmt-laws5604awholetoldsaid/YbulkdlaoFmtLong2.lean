import Derived.Test.YbulkdlaoFmtLong
namespace Go.Proofs.YbulkdlaoFmt
set_option linter.unusedVariables false
set_option linter.unusedSimpArgs false
open Go.RowKit

theorem same_at {p x y : Nat} (hp : p < 13) (hx : x < 12) (hy : y < 12) (he : ft p x = ft p y) :
    (flong (ft p x) = 0 → x = y) ∧ (flong (ft p x) ≠ 0 → ∃ u v : Nat, fpre (ft p x) = (u : Int) ∧ fend (ft p x) = (v : Int) ∧ u + 4 ≤ v ∧ v ≤ (nm x).size ∧ v ≤ (nm y).size ∧
      (v - (u + 4) ≤ 8 ∧ 8 ≤ v → ((nm x).extract (v - 8) v = (nm y).extract (v - 8) v ↔ x = y)) ∧ (¬ (v - (u + 4) ≤ 8 ∧ 8 ≤ v) → ((nm x).extract (u + 4) v = (nm y).extract (u + 4) v ↔ x = y))) := by
  have h := sameOk
  unfold sameB at h
  have h1 := List.all_eq_true.1 h p (List.mem_range.2 hp)
  have h2 := List.all_eq_true.1 h1 x (List.mem_range.2 hx)
  have h3 := List.all_eq_true.1 h2 y (List.mem_range.2 hy)
  simp only [he, bne_self_eq_false, Bool.false_or] at h3
  rw [he]
  refine ⟨fun h0 => ?_, fun h0 => ?_⟩
  · rw [if_pos (by simpa using h0)] at h3
    simpa using h3
  · rw [if_neg (by simpa using h0)] at h3
    simp only [Bool.and_eq_true, decide_eq_true_eq] at h3
    obtain ⟨⟨⟨⟨⟨a1, a2⟩, a3⟩, a4⟩, a5⟩, a6⟩ := h3
    clear h h1 h2
    generalize fpre (ft p y) = fp at *
    generalize fend (ft p y) = fe at *
    have ext : ∀ {a b : ByteArray}, (a.data == b.data) = true ↔ a = b := fun {a b} => ⟨fun h => ByteArray.ext (by simpa using h), fun h => by rw [h]; simp⟩
    refine ⟨fp.toNat, fe.toNat, (Int.toNat_of_nonneg a1).symm, (Int.toNat_of_nonneg a2).symm, a3, a4, a5, fun hc => ?_, fun hc => ?_⟩
    · rw [if_pos hc] at a6
      have a7 := eq_of_beq a6
      rw [← ext, a7]; simp
    · rw [if_neg hc] at a6
      have a7 := eq_of_beq a6
      rw [← ext, a7]; simp

theorem ext_ext {a : ByteArray} {i s u v : Nat} (hv : v ≤ s) (hs : i + s ≤ a.size) : (a.extract i (i + s)).extract u v = a.extract (i + u) (i + v) := by
  apply ByteArray.ext
  simp only [ByteArray.data_extract]
  apply Array.ext_getElem?
  intro t
  have e1 : a.size = a.data.size := rfl
  rw [Array.getElem?_extract, Array.getElem?_extract, Array.getElem?_extract]
  by_cases ht : t < v - u
  · rw [if_pos (by rw [Array.size_extract]; omega), if_pos (by omega), if_pos (by omega)]
    congr 1; omega
  · rw [if_neg (by rw [Array.size_extract]; omega), if_neg (by omega)]

theorem Ok.sub {ids : ByteArray} {e : En} (h : Ok ids e) {u v : Nat} (hv : v ≤ (nm e.k).size) : ids.extract (e.a + u) (e.a + v) = (nm e.k).extract u v := by
  rw [← ext_ext hv h.fits, h.id]

theorem eight {a : ByteArray} (h : a.size = 8) : ∃ b0 b1 b2 b3 b4 b5 b6 b7 : UInt8, a = ⟨#[b0, b1, b2, b3, b4, b5, b6, b7]⟩ := by
  obtain ⟨⟨l⟩⟩ := a
  have h' : l.length = 8 := h
  match l, h' with
  | [b0, b1, b2, b3, b4, b5, b6, b7], _ => exact ⟨b0, b1, b2, b3, b4, b5, b6, b7, rfl⟩

/-- sameWord at two places of two ids. -/
theorem word_ids {s t : ByteArray} {i j : Nat} (w : World) (his : i + 8 ≤ s.size) (hjs : j + 8 ≤ t.size) (hsz : s.size ≤ 1048576) (htz : t.size ≤ 1048576) :
    Calls Ybaf.prog 51 #[.string s, .int .i64 i, .string t, .int .i64 j] w fun r w' => r = .returned (.bool (decide (s.extract i (i + 8) = t.extract j (j + 8)))) ∧ Below w.heap.size w w' := by
  obtain ⟨b0, b1, b2, b3, b4, b5, b6, b7, e1⟩ := eight (a := s.extract i (i + 8)) (by rw [ByteArray.size_extract]; omega)
  obtain ⟨c0, c1, c2, c3, c4, c5, c6, c7, e2⟩ := eight (a := t.extract j (j + 8)) (by rw [ByteArray.size_extract]; omega)
  rw [e1, e2]
  exact word_any s t i j b0 b1 b2 b3 b4 b5 b6 b7 c0 c1 c2 c3 c4 c5 c6 c7 w e1 e2 his hjs hsz htz
end Go.Proofs.YbulkdlaoFmt
