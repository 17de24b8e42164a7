import Derived.Test.YbulkdlaaNs
namespace Go.Proofs.Ybulkdlaa
set_option linter.unusedVariables false
set_option linter.unusedSimpArgs false
open Go.RowKit

theorem MO.mono {α : Type} [DecidableEq α] {κ : α → Value} {k : TypeId} {w : World} {v : Value} {n n' sz : Nat} {f : α → Option Value} (h : MO κ k w v n f sz) (hn : n ≤ n') : MO κ k w v n' f sz := by
  rcases h with h | ⟨b, rfl, h⟩
  · exact .inl h
  · exact .inr ⟨b, rfl, h.mono hn⟩

namespace N2
variable {w wr w' : World} {R G : Nat} {gc : Array Value} {vm vdm : Value} {dm : DM} {va vdn : Value} {dn : DN} {N : Nat} {fa : ByteArray → Option Value} {na sza : Nat} {sk : Option Nat}

theorem start {n0 : Nat} (L : L1 w wr R G gc vm vdm dm n0) (hn : n0 ≤ 4096) : N2 w wr R G gc vm vdm dm (.map none) (.slice none 0 0) [] 0 (fun _ => none) 0 0 none where
  rb := L.rb
  m := L.m.mono hn
  row := L.row
  nod := L.nod
  fit := L.fit
  dlen := Nat.le_trans L.len hn
  box := L.box
  below := L.below
  newR := L.newR
  newG := L.newG
  newM := L.newM
  newD := L.newD
  a := .inl ⟨rfl, fun _ => rfl, rfl⟩
  nrow := OR.nil _ _
  nnod := List.nodup_nil
  nfit := by simp
  ent := by simp
  sep := by simp
  inj := by simp
  rsep := by simp
  rinj := by simp
  newA := fun b h => by cases h
  newN := fun g h => by cases h
  sva := fun b _ h => by cases h

theorem made (L : N2 w wr R G gc vm vdm dm (.map none) (.slice none 0 0) [] N (fun _ => none) 0 0 none) :
    N2 w ((wr.setCell ⟨R, 3, none⟩ (.map (some wr.heap.size))).alloc (.map #[] 0)) R G gc vm vdm dm (.map (some wr.heap.size)) (.slice none 0 0) [] N (fun _ => none) 0 0 none := by
  rw [← World.setCell_alloc_past (.map #[] 0) R 3 (.map (some wr.heap.size)) L.rb.lt]
  have L' := L.keep (w' := wr.alloc (.map #[] 0)) ((Below.refl _ wr).alloc (Nat.le_refl _) _)
  have hRl := L.rb.lt
  have hk : Kp (fun b => b = R) (wr.alloc (.map #[] 0)) ((wr.alloc (.map #[] 0)).setCell ⟨R, 3, none⟩ (.map (some wr.heap.size))) := (Kp.refl (fun b => b = R) _).setCell (.inl rfl) _
  obtain ⟨cu, hR⟩ := L'.rb.obj
  have hm := L'.m
  exact {
    rb := L'.rb.setA _
    m := L'.m.block (fun b e => hk.block _ (L'.m.lt e) (fun e' => by
      obtain ⟨es, c, h⟩ := L'.m.isMap e
      rw [e', hR] at h; cases h))
    row := L'.row.block (fun g e => hk.block _ (L'.row.lt e) (fun e' => by
      obtain ⟨cu2, h⟩ := L'.row.obj e
      rw [e', hR] at h; cases h))
    nod := L.nod
    fit := L.fit
    dlen := L.dlen
    box := (hk.block _ (olt L'.box) (fun e' => by have h := L'.box; rw [e', hR] at h; cases h)).trans L'.box
    below := L'.below.trans (hk.below L'.below.size (fun b e => by rw [e]; exact L.newR))
    newR := L.newR
    newG := L.newG
    newM := L.newM
    newD := L.newD
    a := .inr ⟨wr.heap.size, rfl, (MG.made .string 9 wr).block (RowKit.Below.heap_setCell _ _ _ _ (by simp; omega))⟩
    nrow := OR.nil _ _
    nnod := List.nodup_nil
    nfit := by simp
    ent := by simp
    sep := by simp
    inj := by simp
    rsep := by simp
    rinj := by simp
    newA := fun b h => by
      unfold isB at h
      simp at h
      have := L.below.size
      omega
    newN := fun g h => by cases h
    sva := fun b h1 h2 => by
      unfold isB at h2
      simp at h2
      have := L.m.lt h1
      omega }

/-- A new entry, its set still nil. -/
theorem append {o : Obj} {v' : Value} {ns : ByteArray} (L : N2 w wr R G gc vm vdm dm va vdn dn N fa na sza none) (hns : ns.size ≤ maxLen) (hno : ∀ f, f ∈ dn → f.ns ≠ ns) (hown : w'.ownsRow 0 65 3 v' (dn.length + 1) (dn.flatMap encN ++ encN ⟨ns, true, [], .slice none 0 0, none⟩))
    (hg : (wr.alloc o).grownBy w' vdn.ownBlock) (hloc : v'.ownBlock = vdn.ownBlock ∨ v'.ownBlock = some (wr.heap.size + 1)) :
    N2 w w' R G gc vm vdm dm va v' (dn ++ [⟨ns, true, [], .slice none 0 0, none⟩]) N fa na sza none := by
  have hk := kp_grown hg
  have hget : ∀ {i : Nat} {e : NE}, (dn ++ [(⟨ns, true, [], .slice none 0 0, none⟩ : NE)])[i]? = some e → dn[i]? = some e ∨ e = ⟨ns, true, [], .slice none 0 0, none⟩ := fun {i e} h => by
    rcases Nat.lt_or_ge i dn.length with hl | hl
    · left; rw [List.getElem?_append_left hl] at h; exact h
    · right
      rw [List.getElem?_append_right hl] at h
      rcases Nat.eq_zero_or_pos (i - dn.length) with h0 | h0
      · rw [h0] at h; simp at h; exact h.symm
      · rw [List.getElem?_eq_none (by simp; omega)] at h; cases h
  exact {
    rb := L.rb.block (hk.block _ L.rb.lt (fun e => (L.neN e).1 rfl))
    m := L.m.block (fun b e => hk.block _ (L.m.lt e) (fun e' => (L.neN e').2.2.1 e))
    row := L.row.block (fun g e => hk.block _ (L.row.lt e) (fun e' => (L.neN e').2.2.2.1 e))
    nod := L.nod
    fit := L.fit
    dlen := L.dlen
    box := (hk.block _ (olt L.box) (fun e => (L.neN e).2.1 rfl)).trans L.box
    below := L.below.trans (hk.below L.below.size (fun b e => L.newN b e))
    newR := L.newR
    newG := L.newG
    newM := L.newM
    newD := L.newD
    a := L.a.block (fun b e => hk.block _ (L.a.lt e) (fun e' => (L.neN e').2.2.2.2.1 e))
    nrow := OR.snoc hown
    nnod := nsOf_append_nodup hno L.nnod
    nfit := fun e he => by
      rcases List.mem_append.1 he with h | h
      · exact L.nfit e h
      · simp at h; rw [h]; exact hns
    ent := fun i e he hsk => by
      rcases hget he with h | h
      · exact (L.ent i e h (by simp)).block (fun b hb hl => hk.block _ hl (fun e' => (L.neN e').2.2.2.2.2.1 i e h hb)) (fun b hb hl => hk.block _ hl (fun e' => (L.neN e').2.2.2.2.2.2 i e h hb))
      · subst h
        exact ⟨OR.nil _ _, List.nodup_nil, by simp, .inl ⟨rfl, rfl, rfl, rfl⟩⟩
    sep := fun i e b he hb => by
      rcases hget he with h | h
      · obtain ⟨h1, h2, h3, es, c, h4⟩ := L.sep i e b h hb
        exact ⟨h1, h2, h3, es, c, (hk.block _ (olt h4) (fun e' => (L.neN e').2.2.2.2.2.1 i e h hb)).trans h4⟩
      · subst h; cases hb
    inj := fun i j e f b he hf hb hb' => by
      rcases hget he with h | h
      · rcases hget hf with h' | h'
        · exact L.inj i j e f b h h' hb hb'
        · subst h'; cases hb'
      · subst h; cases hb
    rsep := fun i e b he hb => by
      rcases hget he with h | h
      · obtain ⟨h1, cur, h4⟩ := L.rsep i e b h hb
        exact ⟨h1, cur, (hk.block _ (olt h4) (fun e' => (L.neN e').2.2.2.2.2.2 i e h hb)).trans h4⟩
      · subst h; cases hb
    rinj := fun i j e f b he hf hb hb' => by
      rcases hget he with h | h
      · rcases hget hf with h' | h'
        · exact L.rinj i j e f b h h' hb hb'
        · subst h'; cases hb'
      · subst h; cases hb
    newA := L.newA
    newN := fun g e => by
      rcases hloc with h | h
      · exact L.newN g (by rw [← h]; exact e)
      · rw [h] at e
        simp at e
        have := L.below.size
        omega
    sva := L.sva }

/-- Entry t is written anew. -/
theorem setEntry {T : Nat → Prop} {t : Nat} {e e' : NE} (L : N2 w wr R G gc vm vdm dm va vdn dn N fa na sza sk) (ht : dn[t]? = some e) (hsk : sk = none ∨ sk = some t) (hk : Kp T wr w') (hT : ∀ b, T b → vdn.ownBlock = some b ∨ e.sv.ownBlock = some b) (hrow : OR encN 3 w' 65 vdn (dn.set t e')) (hns : e'.ns = e.ns)
    (him : ∀ b, e'.im = some b → ¬ isB vm b ∧ ¬ isB va b ∧ w.heap.size ≤ b ∧ (∃ es c, w'.heap[b]? = some (.map es c)) ∧ ∀ (i : Nat) (f : NE), dn[i]? = some f → i ≠ t → f.im ≠ some b)
    (hsv : ∀ b, e'.sv.ownBlock = some b → w.heap.size ≤ b ∧ (∃ cur, w'.heap[b]? = some (.cells cur 51 (0, 0))) ∧ ∀ (i : Nat) (f : NE), dn[i]? = some f → i ≠ t → f.sv.ownBlock ≠ some b) :
    N2 w w' R G gc vm vdm dm va vdn (dn.set t e') N fa na sza (some t) := by
  have hget : ∀ {i : Nat} {f : NE}, (dn.set t e')[i]? = some f → (i ≠ t ∧ dn[i]? = some f) ∨ (i = t ∧ f = e') := fun {i f} h => by
    by_cases hi : i = t
    · subst hi
      rw [get_set_same ht] at h
      cases h
      exact .inr ⟨rfl, rfl⟩
    · rw [get_set_other hi] at h
      exact .inl ⟨hi, h⟩
  have nT : ∀ {b : Nat}, (vdn.ownBlock ≠ some b) → (e.sv.ownBlock ≠ some b) → ¬ T b := fun {b} h1 h2 h => by
    rcases hT b h with h | h
    · exact h1 h
    · exact h2 h
  exact {
    rb := L.rb.block (hk.block _ L.rb.lt (nT (fun h => (L.neN h).1 rfl) (fun h => (L.neS ht h).1 rfl)))
    m := L.m.block (fun b hb => hk.block _ (L.m.lt hb) (nT (fun h => (L.neN h).2.2.1 hb) (fun h => (L.neS ht h).2.2.1 hb)))
    row := L.row.block (fun g hg => hk.block _ (L.row.lt hg) (nT (fun h => (L.neN h).2.2.2.1 hg) (fun h => (L.neS ht h).2.2.2.1 hg)))
    nod := L.nod
    fit := L.fit
    dlen := L.dlen
    box := (hk.block _ (olt L.box) (nT (fun h => (L.neN h).2.1 rfl) (fun h => (L.neS ht h).2.1 rfl))).trans L.box
    below := L.below.trans (hk.below L.below.size (fun b hb => by
      rcases hT b hb with h | h
      · exact L.newN b h
      · exact (L.rsep t e b ht h).1))
    newR := L.newR
    newG := L.newG
    newM := L.newM
    newD := L.newD
    a := L.a.block (fun b hb => hk.block _ (L.a.lt hb) (nT (fun h => (L.neN h).2.2.2.2.1 hb) (fun h => (L.neS ht h).2.2.2.2.2.1 hb)))
    nrow := hrow
    nnod := by rw [nsOf_set ht hns]; exact L.nnod
    nfit := fun f hf => by
      rcases List.mem_or_eq_of_mem_set hf with h | h
      · exact L.nfit f h
      · rw [h, hns]; exact L.nfit e (List.mem_of_getElem? ht)
    ent := fun i f hf hne => by
      rcases hget hf with ⟨h1, h2⟩ | ⟨h1, h2⟩
      · have hsk' : sk ≠ some i := by
          rcases hsk with h | h
          · rw [h]; simp
          · rw [h]; simp; exact Ne.symm h1
        exact (L.ent i f h2 hsk').block (fun b hb hl => hk.block _ hl (nT (fun h => (L.neN h).2.2.2.2.2.1 i f h2 hb) (fun h => (L.neS ht h).2.2.2.2.2.2.1 i f h2 hb)))
          (fun b hb hl => hk.block _ hl (nT (fun h => (L.neN h).2.2.2.2.2.2 i f h2 hb) (fun h => h1 ((L.neS ht h).2.2.2.2.2.2.2 i f h2 hb))))
      · exact absurd (by rw [h1]) hne
    sep := fun i f b hf hb => by
      rcases hget hf with ⟨h1, h2⟩ | ⟨h1, h2⟩
      · obtain ⟨g1, g2, g3, es, c, g4⟩ := L.sep i f b h2 hb
        exact ⟨g1, g2, g3, es, c, (hk.block _ (olt g4) (nT (fun h => (L.neN h).2.2.2.2.2.1 i f h2 hb) (fun h => (L.neS ht h).2.2.2.2.2.2.1 i f h2 hb))).trans g4⟩
      · subst h2
        obtain ⟨g1, g2, g3, g4, _⟩ := him b hb
        exact ⟨g1, g2, g3, g4⟩
    inj := fun i j f f' b hf hf' hb hb' => by
      rcases hget hf with ⟨h1, h2⟩ | ⟨h1, h2⟩
      · rcases hget hf' with ⟨h3, h4⟩ | ⟨h3, h4⟩
        · exact L.inj i j f f' b h2 h4 hb hb'
        · subst h4; exact absurd hb ((him b hb').2.2.2.2 i f h2 h1)
      · rcases hget hf' with ⟨h3, h4⟩ | ⟨h3, h4⟩
        · subst h2; exact absurd hb' ((him b hb).2.2.2.2 j f' h4 h3)
        · rw [h1, h3]
    rsep := fun i f b hf hb => by
      rcases hget hf with ⟨h1, h2⟩ | ⟨h1, h2⟩
      · obtain ⟨g1, cur, g4⟩ := L.rsep i f b h2 hb
        exact ⟨g1, cur, (hk.block _ (olt g4) (nT (fun h => (L.neN h).2.2.2.2.2.2 i f h2 hb) (fun h => h1 ((L.neS ht h).2.2.2.2.2.2.2 i f h2 hb)))).trans g4⟩
      · subst h2
        obtain ⟨g1, g4, _⟩ := hsv b hb
        exact ⟨g1, g4⟩
    rinj := fun i j f f' b hf hf' hb hb' => by
      rcases hget hf with ⟨h1, h2⟩ | ⟨h1, h2⟩
      · rcases hget hf' with ⟨h3, h4⟩ | ⟨h3, h4⟩
        · exact L.rinj i j f f' b h2 h4 hb hb'
        · subst h4; exact absurd hb ((hsv b hb').2.2 i f h2 h1)
      · rcases hget hf' with ⟨h3, h4⟩ | ⟨h3, h4⟩
        · subst h2; exact absurd hb' ((hsv b hb).2.2 j f' h4 h3)
        · rw [h1, h3]
    newA := L.newA
    newN := L.newN
    sva := L.sva }

theorem attach {t : Nat} {e : NE} (L : N2 w wr R G gc vm vdm dm va vdn dn N fa na sza (some t)) (ht : dn[t]? = some e) (he : EOk wr N e) : N2 w wr R G gc vm vdm dm va vdn dn N fa na sza none := by
  have h : ∀ (i : Nat) (f : NE), dn[i]? = some f → (none : Option Nat) ≠ some i → EOk wr N f := fun i f hf _ => by
    by_cases h : i = t
    · subst h; rw [ht] at hf; cases hf; exact he
    · exact L.ent i f hf (fun e1 => h (by simpa using e1.symm))
  exact { L with ent := h }

theorem detach (L : N2 w wr R G gc vm vdm dm va vdn dn N fa na sza none) (t : Nat) : N2 w wr R G gc vm vdm dm va vdn dn N fa na sza (some t) :=
  { L with ent := fun i f hf _ => L.ent i f hf (by simp) }

theorem more {N' : Nat} (L : N2 w wr R G gc vm vdm dm va vdn dn N fa na sza sk) (h : N ≤ N') : N2 w wr R G gc vm vdm dm va vdn dn N' fa na sza sk :=
  { L with ent := fun i f hf hs => (L.ent i f hf hs).mono h }

/-- The map of sets is written. -/
theorem storeA {b : Nat} {fa' : ByteArray → Option Value} {na' sza' : Nat} (L : N2 w wr R G gc vm vdm dm (.map (some b)) vdn dn N fa na sza sk) (hk : Kp (fun x => x = b) wr w') (hm : MG .string 9 w' b na' fa' sza') : N2 w w' R G gc vm vdm dm (.map (some b)) vdn dn N fa' na' sza' sk := by
  have hne := L.neA (b := b) rfl
  exact {
    rb := L.rb.block (hk.block _ L.rb.lt (Ne.symm hne.1))
    m := L.m.block (fun x e => hk.block _ (L.m.lt e) (fun e' => hne.2.2.1 (by rw [← e']; exact e)))
    row := L.row.block (fun g e => hk.block _ (L.row.lt e) (fun e' => hne.2.2.2.1 (by rw [← e']; exact e)))
    nod := L.nod
    fit := L.fit
    dlen := L.dlen
    box := (hk.block _ (olt L.box) (Ne.symm hne.2.1)).trans L.box
    below := L.below.trans (hk.below L.below.size (fun x e => by rw [e]; exact L.newA b rfl))
    newR := L.newR
    newG := L.newG
    newM := L.newM
    newD := L.newD
    a := .inr ⟨b, rfl, hm⟩
    nrow := L.nrow.block (fun g e => hk.block _ (L.nrow.lt e) (fun e' => hne.2.2.2.2.1 (by rw [← e']; exact e)))
    nnod := L.nnod
    nfit := L.nfit
    ent := fun i e he hs => (L.ent i e he hs).block (fun x h hb => hk.block _ hb (fun e' => hne.2.2.2.2.2.1 i e he (by rw [← e']; exact h))) (fun x h hb => hk.block _ hb (fun e' => hne.2.2.2.2.2.2 i e he (by rw [← e']; exact h)))
    sep := fun i e x he h => by
      obtain ⟨g1, g2, g3, es, c, g4⟩ := L.sep i e x he h
      exact ⟨g1, g2, g3, es, c, (hk.block _ (olt g4) (fun e' => hne.2.2.2.2.2.1 i e he (by rw [← e']; exact h))).trans g4⟩
    inj := L.inj
    rsep := fun i e x he h => by
      obtain ⟨g1, cur, g4⟩ := L.rsep i e x he h
      exact ⟨g1, cur, (hk.block _ (olt g4) (fun e' => hne.2.2.2.2.2.2 i e he (by rw [← e']; exact h))).trans g4⟩
    rinj := L.rinj
    newA := L.newA
    newN := L.newN
    sva := L.sva }

/-- The set of entry t is written. -/
theorem storeI {t b : Nat} {e : NE} (L : N2 w wr R G gc vm vdm dm va vdn dn N fa na sza (some t)) (ht : dn[t]? = some e) (hb : e.im = some b) (hk : Kp (fun x => x = b) wr w') (hm : ∃ es c, w'.heap[b]? = some (.map es c)) : N2 w w' R G gc vm vdm dm va vdn dn N fa na sza (some t) := by
  have hne := L.neI ht hb
  exact {
    rb := L.rb.block (hk.block _ L.rb.lt (Ne.symm hne.1))
    m := L.m.block (fun x e => hk.block _ (L.m.lt e) (fun e' => hne.2.2.1 (by rw [← e']; exact e)))
    row := L.row.block (fun g e => hk.block _ (L.row.lt e) (fun e' => hne.2.2.2.1 (by rw [← e']; exact e)))
    nod := L.nod
    fit := L.fit
    dlen := L.dlen
    box := (hk.block _ (olt L.box) (Ne.symm hne.2.1)).trans L.box
    below := L.below.trans (hk.below L.below.size (fun x e' => by rw [e']; exact (L.sep t e b ht hb).2.2.1))
    newR := L.newR
    newG := L.newG
    newM := L.newM
    newD := L.newD
    a := L.a.block (fun x e => hk.block _ (L.a.lt e) (fun e' => hne.2.2.2.2.2.1 (by rw [← e']; exact e)))
    nrow := L.nrow.block (fun g e => hk.block _ (L.nrow.lt e) (fun e' => hne.2.2.2.2.1 (by rw [← e']; exact e)))
    nnod := L.nnod
    nfit := L.nfit
    ent := fun i f hf hs => (L.ent i f hf hs).block (fun x h hl => hk.block _ hl (fun e' => hs (by rw [hne.2.2.2.2.2.2.1 i f hf (by rw [← e']; exact h)]))) (fun x h hl => hk.block _ hl (fun e' => hne.2.2.2.2.2.2.2 i f hf (by rw [← e']; exact h)))
    sep := fun i f x hf h => by
      obtain ⟨g1, g2, g3, es, c, g4⟩ := L.sep i f x hf h
      by_cases e' : x = b
      · subst e'; exact ⟨g1, g2, g3, hm⟩
      · exact ⟨g1, g2, g3, es, c, (hk.block _ (olt g4) e').trans g4⟩
    inj := L.inj
    rsep := fun i f x hf h => by
      obtain ⟨g1, cur, g4⟩ := L.rsep i f x hf h
      exact ⟨g1, cur, (hk.block _ (olt g4) (fun e' => hne.2.2.2.2.2.2.2 i f hf (by rw [← e']; exact h))).trans g4⟩
    rinj := L.rinj
    newA := L.newA
    newN := L.newN
    sva := L.sva }

theorem kp_turn {b : Nat} (hT : wr.mapTurned w' b) : Kp (fun x => x = b) wr w' := by
  obtain ⟨z1, z2, z3, z4, hbl⟩ := turned_block hT
  exact ⟨z3, z2, z4, by rw [z1]; exact Nat.le_refl _, fun x _ hne => hbl x hne⟩
end N2
end Go.Proofs.Ybulkdlaa
