import Derived.Test.YbulkdlaaHeld
import Derived.Deep.Slices
import Derived.Deep.Strs
import Derived.DataShut
namespace Go.Proofs.Ybulkdlaa
set_option linter.unusedVariables false
set_option linter.unusedSimpArgs false
open Go.RowKit

theorem cells25 : Yba.prog.cellsOf 25 = 3 := by kernel_rfl
theorem cells29 : Yba.prog.cellsOf 29 = 3 := by kernel_rfl
theorem cells5 : Yba.prog.cellsOf 5 = 1 := by kernel_rfl
theorem cells4 : Yba.prog.cellsOf 4 = 1 := by kernel_rfl
theorem cells27 : Yba.prog.cellsOf 27 = 1 := by kernel_rfl

theorem spot_none {w : World} {x : Addr} {v : Value} (h : w.cell? x = some v) : x = ⟨x.block, x.off, none⟩ := by
  obtain ⟨b, o, s⟩ := x
  cases s with
  | none => rfl
  | some i =>
    exfalso
    unfold World.cell? at h
    split at h <;> simp at h

section
variable {H : Type} {enc : TypeId × Value → H} {w : World} {base : Nat} {spare : Nat → Bool} {held : Bool}

theorem u8_of_wf {a : Int} (h : (Lit.int .u8 a).wf = true) : 0 ≤ a ∧ a ≤ 255 := by
  have h' := (Lit.wf_int_iff .u8 a).1 h
  exact ⟨h'.1, h'.2⟩

/-- A key's cells. -/
theorem key_parts {fuel : Nat} {cs : List Value} {x : DataW H × List MemPlace} (h : DataW.trod enc Yba.prog w base spare held fuel 25 cs = some x) :
    ∃ (s : Int) (n k : ByteArray), cs = [.int .u8 s, .string n, .string k] ∧ (0 ≤ s ∧ s ≤ 255) ∧ n.size ≤ maxLen ∧ k.size ≤ maxLen := by
  obtain ⟨y0, y1, y2, m, _, hl, g0, g1, g2⟩ := Deep.trod_struct3 Yba.underlying25 h
  rw [cells25] at hl
  match cs, hl with
  | [a, b, c], _ =>
    simp only [cells5, cells9] at g0 g1 g2
    obtain ⟨s, e0, _, z0⟩ := DataW.trod_int Yba.underlying5 g0
    obtain ⟨n, e1, _, z1⟩ := DataW.trod_string Yba.underlying9 g1
    obtain ⟨k, e2, _, z2⟩ := DataW.trod_string Yba.underlying9 g2
    simp at e0 e1 e2
    exact ⟨s, n, k, by rw [e0, e1, e2], u8_of_wf z0, z1, z2⟩

theorem open_held {fuel : Nat} {a : Option Addr} {n c : Nat} {x : DataW H × List MemPlace} (h : DataW.trod enc Yba.prog w base (fun _ => true) held fuel 22 [.slice a n c] = some x) :
    ∃ (b0 o0 : Nat) (hs : Nat → Int) (hn hk : Nat → ByteArray), (0 < n → a = some ⟨b0, o0, none⟩) ∧ (∀ j, 0 ≤ hs j ∧ hs j ≤ 255) ∧
      ∀ j, j < n → w.cell? ⟨b0, o0 + j * 3, none⟩ = some (.int .u8 (hs j)) ∧ w.cell? ⟨b0, o0 + j * 3 + 1, none⟩ = some (.string (hn j)) ∧ w.cell? ⟨b0, o0 + j * 3 + 2, none⟩ = some (.string (hk j)) ∧ (hn j).size ≤ maxLen ∧ (hk j).size ≤ maxLen := by
  rcases Deep.open_slice Yba.underlying22 h with ⟨hc, _⟩ | ⟨ad, len, cap, m, f, D, Pl, hc, _, hl, hm, hmm, _, hall⟩
  · simp at hc
    obtain ⟨rfl, rfl, rfl⟩ := hc
    exact ⟨0, 0, fun _ => 0, fun _ => ⟨#[]⟩, fun _ => ⟨#[]⟩, fun h => by omega, fun _ => by simp, fun j hj => by omega⟩
  · simp at hc
    obtain ⟨rfl, rfl, rfl⟩ := hc
    rw [if_pos rfl] at hmm
    subst hmm
    rw [cells25] at hall
    have each : ∀ j, j < n → ∃ p : Int × ByteArray × ByteArray, (0 ≤ p.1 ∧ p.1 ≤ 255) ∧ w.cell? (ad.add (j * 3)) = some (.int .u8 p.1) ∧ w.cell? ((ad.add (j * 3)).add 1) = some (.string p.2.1) ∧ w.cell? ((ad.add (j * 3)).add 2) = some (.string p.2.2) ∧ p.2.1.size ≤ maxLen ∧ p.2.2.size ≤ maxLen := fun j hj => by
      obtain ⟨cs', h1, h2⟩ := hall j (by omega)
      obtain ⟨s, nn, k, rfl, z0, z1, z2⟩ := key_parts h2
      obtain ⟨_, _, hcell⟩ := World.cells?_some h1
      exact ⟨(s, nn, k), z0, hcell 0 (by omega), hcell 1 (by omega), hcell 2 (by omega), z1, z2⟩
    obtain ⟨S, hS⟩ := Deep.choose_lt each
    by_cases h0 : 0 < n
    · have hx : ad = ⟨ad.block, ad.off, none⟩ := spot_none (hS 0 h0).2.1
      refine ⟨ad.block, ad.off, fun j => if j < n then (S j).1 else 0, fun j => (S j).2.1, fun j => (S j).2.2, fun _ => by rw [← hx], fun j => ?_, fun j hj => ?_⟩
      · by_cases hj : j < n
        · simp only [if_pos hj]; exact (hS j hj).1
        · simp only [if_neg hj]; omega
      · obtain ⟨_, g0, g1, g2, g3, g4⟩ := hS j hj
        rw [hx, add_eq] at g0 g1 g2
        rw [add_eq] at g1 g2
        simp only [if_pos hj]
        exact ⟨g0, g1, g2, g3, g4⟩
    · exact ⟨0, 0, fun _ => 0, fun _ => ⟨#[]⟩, fun _ => ⟨#[]⟩, fun h => absurd h h0, fun _ => by simp, fun j hj => by omega⟩

/-- One advertisement's cells. -/
structure AP where
  n : ByteArray
  b : Bool
  a : Option Addr
  l : Nat
  c : Nat
  kb : Nat
  ko : Nat
  ks : Nat → ByteArray

instance : Inhabited AP := ⟨⟨⟨#[]⟩, false, none, 0, 0, 0, 0, fun _ => ⟨#[]⟩⟩⟩

theorem adv_parts {fuel : Nat} {cs : List Value} {x : DataW H × List MemPlace} (h : DataW.trod enc Yba.prog w base (fun _ => true) held fuel 29 cs = some x) :
    ∃ p : AP, cs = [.string p.n, .bool p.b, .slice p.a p.l p.c] ∧ p.n.size ≤ maxLen ∧ (0 < p.l → p.a = some ⟨p.kb, p.ko, none⟩) ∧ ∀ t, t < p.l → w.cell? ⟨p.kb, p.ko + t, none⟩ = some (.string (p.ks t)) ∧ (p.ks t).size ≤ maxLen := by
  obtain ⟨y0, y1, y2, m, _, hl, g0, g1, g2⟩ := Deep.trod_struct3 Yba.underlying29 h
  rw [cells29] at hl
  match cs, hl with
  | [a, b, c], _ =>
    simp only [cells4, cells9, cells27] at g0 g1 g2
    obtain ⟨n, e0, _, z0⟩ := DataW.trod_string Yba.underlying9 g0
    obtain ⟨bb, e1, _⟩ := DataW.trod_bool Yba.underlying4 g1
    simp at e0 e1
    rcases Deep.open_strs Yba.underlying27 Yba.underlying9 cells9 g2 with ⟨hc, _⟩ | ⟨ad, len, cap, mm, Sx, hc, _, hl, hm, hmm, _, hall⟩
    · simp at hc
      exact ⟨⟨n, bb, none, 0, 0, 0, 0, fun _ => ⟨#[]⟩⟩, by rw [e0, e1, hc], z0, fun h => by simp at h, fun t ht => by simp at ht⟩
    · simp at hc
      rw [if_pos rfl] at hmm
      subst hmm
      by_cases h0 : 0 < len
      · have hx : ad = ⟨ad.block, ad.off, none⟩ := spot_none (x := ad) (hall 0 (by omega)).1
        refine ⟨⟨n, bb, some ad, len, mm, ad.block, ad.off, Sx⟩, by rw [e0, e1, hc], z0, fun _ => by show some ad = _; rw [← hx], fun t ht => ?_⟩
        have := hall t (by simp at ht; omega)
        rw [hx, add_eq] at this
        exact this
      · exact ⟨⟨n, bb, some ad, len, mm, 0, 0, fun _ => ⟨#[]⟩⟩, by rw [e0, e1, hc], z0, fun h => absurd h h0, fun t ht => absurd (Nat.zero_lt_of_lt ht) h0⟩

theorem open_advs {fuel : Nat} {a : Option Addr} {n c : Nat} {x : DataW H × List MemPlace} (h : DataW.trod enc Yba.prog w base (fun _ => true) held fuel 23 [.slice a n c] = some x) :
    ∃ (b1 o1 : Nat) (S : Nat → AP), (0 < n → a = some ⟨b1, o1, none⟩) ∧
      ∀ j, j < n → w.cell? ⟨b1, o1 + j * 3, none⟩ = some (.string (S j).n) ∧ w.cell? ⟨b1, o1 + j * 3 + 1, none⟩ = some (.bool (S j).b) ∧ w.cell? ⟨b1, o1 + j * 3 + 2, none⟩ = some (.slice (S j).a (S j).l (S j).c) ∧ (S j).n.size ≤ maxLen ∧ (0 < (S j).l → (S j).a = some ⟨(S j).kb, (S j).ko, none⟩) ∧ ∀ t, t < (S j).l → w.cell? ⟨(S j).kb, (S j).ko + t, none⟩ = some (.string ((S j).ks t)) ∧ ((S j).ks t).size ≤ maxLen := by
  rcases Deep.open_slice Yba.underlying23 h with ⟨hc, _⟩ | ⟨ad, len, cap, m, f, D, Pl, hc, _, hl, hm, hmm, _, hall⟩
  · simp at hc
    obtain ⟨rfl, rfl, rfl⟩ := hc
    exact ⟨0, 0, fun _ => default, fun h => by omega, fun j hj => by omega⟩
  · simp at hc
    obtain ⟨rfl, rfl, rfl⟩ := hc
    rw [if_pos rfl] at hmm
    subst hmm
    rw [cells29] at hall
    have each : ∀ j, j < n → ∃ p : AP, w.cell? (ad.add (j * 3)) = some (.string p.n) ∧ w.cell? ((ad.add (j * 3)).add 1) = some (.bool p.b) ∧ w.cell? ((ad.add (j * 3)).add 2) = some (.slice p.a p.l p.c) ∧ p.n.size ≤ maxLen ∧ (0 < p.l → p.a = some ⟨p.kb, p.ko, none⟩) ∧ ∀ t, t < p.l → w.cell? ⟨p.kb, p.ko + t, none⟩ = some (.string (p.ks t)) ∧ (p.ks t).size ≤ maxLen := fun j hj => by
      obtain ⟨cs', h1, h2⟩ := hall j (by omega)
      obtain ⟨p, rfl, z0, z1, z2⟩ := adv_parts h2
      obtain ⟨_, _, hcell⟩ := World.cells?_some h1
      exact ⟨p, hcell 0 (by omega), hcell 1 (by omega), hcell 2 (by omega), z0, z1, z2⟩
    obtain ⟨S, hS⟩ := Deep.choose_lt each
    by_cases h0 : 0 < n
    · have hx : ad = ⟨ad.block, ad.off, none⟩ := spot_none (hS 0 h0).1
      refine ⟨ad.block, ad.off, S, fun _ => by rw [← hx], fun j hj => ?_⟩
      obtain ⟨g0, g1, g2, g3, g4, g5⟩ := hS j hj
      rw [hx, add_eq] at g0 g1 g2
      rw [add_eq] at g1 g2
      exact ⟨g0, g1, g2, g3, g4, g5⟩
    · exact ⟨0, 0, S, fun h => absurd h h0, fun j hj => by omega⟩
end
end Go.Proofs.Ybulkdlaa
