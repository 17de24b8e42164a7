import Derived.Test.YbulkdlaaNs2
namespace Go.Proofs.Ybulkdlaa
set_option linter.unusedVariables false
set_option linter.unusedSimpArgs false
open Go.RowKit

theorem info65 : (Yba.prog.info? 65).map (fun i => (i.zero, i.size, i.bytes)) = some (some (.agg #[.string ⟨#[]⟩, .bool false, .slice none 0 0]), 3, 48) := by kernel_rfl
theorem info51 : (Yba.prog.info? 51).map (fun i => (i.zero, i.size, i.bytes)) = some (some (.agg #[.string ⟨#[]⟩, .string ⟨#[]⟩, .string ⟨#[]⟩]), 3, 48) := by kernel_rfl

/-- Where the namespace stands in the list, which may have grown by it. -/
def DnRel (dn : DN) (ns : ByteArray) (dn1 : DN) (t : Nat) (e : NE) : Prop :=
  dn1[t]? = some e ∧ e.ns = ns ∧ (dn1 = dn ∨ (dn1 = dn ++ [e] ∧ t = dn.length ∧ ∀ f, f ∈ dn → f.ns ≠ ns))

theorem DnRel.fa {dn dn1 : DN} {ns : ByteArray} {t : Nat} {e e' : NE} (h : DnRel dn ns dn1 t e) (hn : (nsOf dn).Nodup) (he : e'.ns = ns) (y : ByteArray) : faOf (dn1.set t e') y = updM (faOf dn) ns (.map e'.im) y := by
  obtain ⟨h1, h2, h3⟩ := h
  rcases h3 with rfl | ⟨rfl, rfl, hno⟩
  · rw [← h2]; exact faOf_set hn h1 (by rw [he, h2]) y
  · have es : (dn ++ [e]).set dn.length e' = dn ++ [e'] := by rw [List.set_append_right _ _ (Nat.le_refl _)]; simp
    rw [es, ← he]
    exact faOf_append (fun f hf => by rw [he]; exact hno f hf) hn y

theorem DnRel.len {dn dn1 : DN} {ns : ByteArray} {t : Nat} {e : NE} (h : DnRel dn ns dn1 t e) : dn1.length = if (faOf dn ns).isSome then dn.length else dn.length + 1 := by
  obtain ⟨h1, h2, h3⟩ := h
  rcases h3 with rfl | ⟨rfl, rfl, hno⟩
  · rw [if_pos (faOf_isSome.2 (by rw [← h2]; exact List.mem_map_of_mem (List.mem_of_getElem? h1)))]
  · rw [if_neg (fun h => by
      obtain ⟨f, hf, hfe⟩ := List.mem_map.1 (faOf_isSome.1 h)
      exact hno f hf hfe)]
    simp

/-- What the map of sets holds at the namespace, before it is written. -/
theorem DnRel.now {dn dn1 : DN} {ns : ByteArray} {t : Nat} {e : NE} (h : DnRel dn ns dn1 t e) (hn : (nsOf dn).Nodup) (hnew : dn1 ≠ dn → e.im = none) : (faOf dn ns).getD (.map none) = .map e.im := by
  obtain ⟨h1, h2, h3⟩ := h
  rcases h3 with rfl | ⟨rfl, rfl, hno⟩
  · rw [← h2, faOf_mem hn (List.mem_of_getElem? h1)]; rfl
  · rw [faOf_none hno, hnew (fun e => by have := congrArg List.length e; simp at this)]; rfl

theorem cell_ne {w : World} {g cap t : Nat} {dn : DN} {e : NE} (h : OR encN 3 w 65 (.slice (some ⟨g, 0, none⟩) dn.length cap) dn) (ht : dn[t]? = some e) :
    w.cell? ⟨g, t * 3, none⟩ = some (.string e.ns) ∧ w.cell? ⟨g, t * 3 + 1, none⟩ = some (.bool e.nil) ∧ w.cell? ⟨g, t * 3 + 2, none⟩ = some e.sv :=
  ⟨h.cell encN_len rfl ht (r := 0) (by omega), h.cell encN_len rfl ht (r := 1) (by omega), h.cell encN_len rfl ht (r := 2) (by omega)⟩

theorem MO.refa {α : Type} [DecidableEq α] {κ : α → Value} {k : TypeId} {w : World} {v : Value} {n sz sz' : Nat} {f f' : α → Option Value} (h : MO κ k w v n f sz) (e : ∀ a, f' a = f a) (es : sz' = sz) : MO κ k w v n f' sz' := by
  rw [show f' = f from funext e, es]; exact h

namespace N2
variable {w wr w' : World} {R G : Nat} {gc : Array Value} {vm vdm : Value} {dm : DM} {va vdn : Value} {dn : DN} {N : Nat} {fa : ByteArray → Option Value} {na sza : Nat} {sk : Option Nat}

theorem refa {fa' : ByteArray → Option Value} {sza' : Nat} (L : N2 w wr R G gc vm vdm dm va vdn dn N fa na sza sk) (e : ∀ y, fa' y = fa y) (es : sza' = sza) : N2 w wr R G gc vm vdm dm va vdn dn N fa' na sza' sk :=
  { L with a := L.a.refa e es }

theorem mg {ba : Nat} (L : N2 w wr R G gc vm vdm dm (.map (some ba)) vdn dn N fa na sza sk) : MG .string 9 wr ba na fa sza := by
  rcases L.a with ⟨h, _⟩ | ⟨b, h, hm⟩
  · cases h
  · cases h; exact hm

/-- The entry's set is made nil. -/
theorem toNil {g cap t : Nat} {e : NE} (L : N2 w wr R G gc vm vdm dm va (.slice (some ⟨g, 0, none⟩) dn.length cap) dn N fa na sza none) (ht : dn[t]? = some e) :
    N2 w ((wr.setCell ⟨g, t * 3 + 1, none⟩ (.bool true)).setCell ⟨g, t * 3 + 2, none⟩ (.slice none 0 0)) R G gc vm vdm dm va (.slice (some ⟨g, 0, none⟩) dn.length cap) (dn.set t ⟨e.ns, true, [], .slice none 0 0, none⟩) N fa na sza none := by
  have hk : Kp (fun b => b = g) wr ((wr.setCell ⟨g, t * 3 + 1, none⟩ (.bool true)).setCell ⟨g, t * 3 + 2, none⟩ (.slice none 0 0)) := ((Kp.refl (fun b => b = g) wr).setCell (.inl rfl) _).setCell (.inl rfl) _
  have r1 := L.nrow.store (e := 65) encN_len rfl ht (r := 1) (b' := ⟨e.ns, true, e.keys, e.sv, e.im⟩) (u := .bool true) (by omega) rfl
  have r2 := OR.store r1 encN_len (by rw [List.length_set]) (get_set_same ht) (r := 2) (b' := ⟨e.ns, true, [], .slice none 0 0, none⟩) (u := .slice none 0 0) (by omega) rfl
  rw [List.set_set] at r2
  have L2 := L.setEntry ht (.inl rfl) hk (fun b hb => .inl (by rw [hb]; rfl)) r2 rfl (fun b hb => by cases hb) (fun b hb => by cases hb)
  exact L2.attach (get_set_same ht) ⟨OR.nil _ _, List.nodup_nil, by simp, .inl ⟨rfl, rfl, rfl, rfl⟩⟩

theorem moreA {na' : Nat} (L : N2 w wr R G gc vm vdm dm va vdn dn N fa na sza sk) (h : na ≤ na') : N2 w wr R G gc vm vdm dm va vdn dn N fa na' sza sk :=
  { L with a := L.a.mono h }

/-- Entry t gets a new set. -/
theorem newSet {t b : Nat} {e : NE} (L : N2 w wr R G gc vm vdm dm va vdn dn N fa na sza sk) (hsk : sk = none ∨ sk = some t) (ht : dn[t]? = some e) (hb : ¬ isB vm b ∧ ¬ isB va b ∧ w.heap.size ≤ b ∧ (∃ es c, wr.heap[b]? = some (.map es c)) ∧ ∀ (i : Nat) (f : NE), dn[i]? = some f → i ≠ t → f.im ≠ some b) :
    N2 w wr R G gc vm vdm dm va vdn (dn.set t ⟨e.ns, e.nil, e.keys, e.sv, some b⟩) N fa na sza (some t) := by
  refine L.setEntry (T := fun _ => False) ht hsk (Kp.refl _ _) (fun _ h => h.elim) ?_ rfl (fun b' hb' => by cases hb'; exact hb) (fun b' hb' => ?_)
  · have h0 := L.nrow
    unfold OR at h0 ⊢
    have e1 : (dn.set t ⟨e.ns, e.nil, e.keys, e.sv, some b⟩).flatMap encN = dn.flatMap encN := by
      rw [List.flatMap_def, List.flatMap_def]
      congr 1
      rw [List.map_set]
      apply List.ext_getElem?
      intro i
      rw [List.getElem?_set]
      by_cases h : t = i
      · subst h
        have hl := (List.getElem?_eq_some_iff.1 ht).1
        have hte : dn[t] = e := by rw [List.getElem?_eq_getElem hl] at ht; cases ht; rfl
        simp [hl, hte, encN]
      · simp [h]
    rw [e1, List.length_set]; exact h0
  · obtain ⟨g1, g2⟩ := L.rsep t e b' ht hb'
    exact ⟨g1, g2, fun i f hf hi h' => hi (L.rinj i t f e b' hf ht h' hb')⟩

/-- The entry's set is no longer nil: its two cells are written. -/
theorem toSet {g cap t b m : Nat} {ns : ByteArray} (L : N2 w wr R G gc vm vdm dm va (.slice (some ⟨g, 0, none⟩) m cap) dn N fa na sza (some t)) (hml : m = dn.length) (ht : dn[t]? = some ⟨ns, true, [], .slice none 0 0, some b⟩) {n : Nat} (hm : MG kv 51 wr b n (fsOf []) 0) (hn : n ≤ N) :
    N2 w ((wr.setCell ⟨g, t * 3 + 1, none⟩ (.bool false)).setCell ⟨g, t * 3 + 2, none⟩ (.slice none 0 0)) R G gc vm vdm dm va (.slice (some ⟨g, 0, none⟩) m cap) (dn.set t ⟨ns, false, [], .slice none 0 0, some b⟩) N fa na sza none := by
  subst hml
  have hk : Kp (fun b => b = g) wr ((wr.setCell ⟨g, t * 3 + 1, none⟩ (.bool false)).setCell ⟨g, t * 3 + 2, none⟩ (.slice none 0 0)) := ((Kp.refl (fun b => b = g) wr).setCell (.inl rfl) _).setCell (.inl rfl) _
  have r1 := L.nrow.store (e := 65) encN_len rfl ht (r := 1) (b' := ⟨ns, false, [], .slice none 0 0, some b⟩) (u := .bool false) (by omega) rfl
  have r2 := OR.store r1 encN_len (by rw [List.length_set]) (get_set_same ht) (r := 2) (b' := ⟨ns, false, [], .slice none 0 0, some b⟩) (u := .slice none 0 0) (by omega) rfl
  rw [List.set_set] at r2
  have hgb : b ≠ g := fun e' => (L.neI ht rfl).2.2.2.2.1 (by rw [e']; rfl)
  have hmb : MG kv 51 ((wr.setCell ⟨g, t * 3 + 1, none⟩ (.bool false)).setCell ⟨g, t * 3 + 2, none⟩ (.slice none 0 0)) b n (fsOf []) 0 := hm.block (hk.block _ hm.lt hgb)
  have L2 := L.setEntry ht (.inr rfl) hk (fun b hb => .inl (by rw [hb]; rfl)) r2 rfl (fun b' hb' => by
    cases hb'
    obtain ⟨g1, g2, g3, _⟩ := L.sep t _ b ht rfl
    exact ⟨g1, g2, g3, hmb.isMap, fun i f hf hi h' => hi ((L.neI ht rfl).2.2.2.2.2.2.1 i f hf h')⟩) (fun b hb => by cases hb)
  exact L2.attach (get_set_same ht) ⟨OR.nil _ _, List.nodup_nil, by simp, .inr ⟨rfl, b, n, rfl, hn, hmb⟩⟩

/-- A set is made and laid under the entry's name. -/
theorem makeSet {t ba : Nat} {e : NE} {dn0 : DN} {ns : ByteArray} {w7 : World} {na' : Nat} (L : N2 w wr R G gc vm vdm dm (.map (some ba)) vdn dn N (faOf dn0) na dn0.length none) (hr : DnRel dn0 ns dn t e) (hn : (nsOf dn0).Nodup) (hk : Kp (fun x => x = ba) (wr.alloc (.map #[] 0)) w7)
    (hm : MG .string 9 w7 ba na' (updM (faOf dn0) ns (.map (some wr.heap.size))) (if (faOf dn0 ns).isSome then dn0.length else dn0.length + 1)) :
    N2 w w7 R G gc vm vdm dm (.map (some ba)) vdn (dn.set t ⟨e.ns, e.nil, e.keys, e.sv, some wr.heap.size⟩) N (faOf (dn.set t ⟨e.ns, e.nil, e.keys, e.sv, some wr.heap.size⟩)) na' dn.length (some t) ∧ MG kv 51 w7 wr.heap.size 0 (fsOf []) 0 := by
  have hbl : ba < wr.heap.size := L.mg.lt
  have L1 := L.keep (w' := wr.alloc (.map #[] 0)) ((Below.refl _ wr).alloc (Nat.le_refl _) _)
  have L2 := L1.storeA hk hm
  have hMG : MG kv 51 w7 wr.heap.size 0 (fsOf []) 0 := ((MG.made kv 51 wr).block (hk.block _ (by simp) (by omega))).congr (fun _ => rfl)
  have L3 := L2.newSet (.inl rfl) hr.1 (b := wr.heap.size) ⟨fun h => by have := L.m.lt h; omega, fun h => by unfold isB at h; simp at h; omega, L.below.size, hMG.isMap, fun i f hf _ h => by
    obtain ⟨_, _, _, es, c, h4⟩ := L.sep i f _ hf h
    have := olt h4
    omega⟩
  exact ⟨L3.refa (fun y => hr.fa (e' := ⟨e.ns, e.nil, e.keys, e.sv, some wr.heap.size⟩) hn hr.2.1 y) hr.len, hMG⟩
end N2
end Go.Proofs.Ybulkdlaa
